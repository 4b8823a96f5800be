/- Contracts of zzs1951cword, (*decoder).literal; the walk of LawS1951CReads. -/
import Derived.Test.YbulkanjoDoorLaid
import Derived.Deep.DeepCutAuto
import Derived.Deep.CutBlock
import Derived.Lib.IfaceEq
namespace Go.Proofs.YbulkanjoDoor.Dw
open Go.RowKit

theorem eql_same (n : Int) (w : World) : (binOp .eql 20 (.iface 3 (.int .i64 n)) (.iface 3 (.int .i64 n))).run Ybad.prog w = .ok (.bool true) w := by
  rw [Lib.run_eql_iface_int w n n Ybad.underlying20 (by kernel_rfl) Ybad.underlying3]
  simp

theorem cword_any (i : Int) (w : World) : Calls Ybad.prog 9 #[.int .i64 i] w fun e w' => ∃ s : ByteArray, e = .returned (.string s) ∧ s.size ≤ 1024 ∧ w' = w := by
  by_cases h0 : i = 0
  · subst h0
    go_enter Ybad.func9, Ybad.ntmps9
    go_wp2
    go_ret
    exact ⟨_, rfl, by rw [mk_size]; simp, rfl⟩
  · by_cases h1 : i = 1
    · subst h1
      go_enter Ybad.func9, Ybad.ntmps9
      go_wp2
      go_ret
      exact ⟨_, rfl, by rw [mk_size]; simp, rfl⟩
    · have e0 : (i == 0) = false := by simp [h0]
      have e1 : (i == 1) = false := by simp [h1]
      go_enter Ybad.func9, Ybad.ntmps9
      go_wp2
      go_ret
      exact ⟨_, rfl, by rw [mk_size]; simp, rfl⟩

theorem miss_end (text wd : ByteArray) (P : Nat) (hle : P + wd.size ≤ text.size) (h : ∀ i, i < wd.size → text.data[P + i]? = wd.data[i]?) : text.extract P (P + wd.size) = wd := by
  apply ByteArray.ext
  rw [ByteArray.data_extract]
  apply Array.ext_getElem?
  intro i
  have e1 : wd.size = wd.data.size := rfl
  have e2 : text.size = text.data.size := rfl
  by_cases hi : i < wd.size
  · rw [← h i hi, Array.getElem?_extract, if_pos (by omega)]
  · rw [Array.getElem?_eq_none (by simp; omega), Array.getElem?_eq_none (by omega)]

theorem hit_at (text wd : ByteArray) (P j : Nat) (hle : P + wd.size ≤ text.size) (h : text.extract P (P + wd.size) = wd) (hj : j < wd.size) : text[P + j] = wd[j] := by
  have e1 : wd.size = wd.data.size := rfl
  have e2 : text.size = text.data.size := rfl
  have hd : (text.extract P (P + wd.size)).data[j]? = wd.data[j]? := by rw [h]
  rw [ByteArray.data_extract, Array.getElem?_extract, if_pos (by omega)] at hd
  rw [Array.getElem?_eq_getElem (by omega), Array.getElem?_eq_getElem (by omega)] at hd
  exact Option.some.inj hd

theorem at_of (text wd : ByteArray) (P j : Nat) (hp : P + j < text.size) (hj : j < wd.size) (h : ((text[P + j].toNat : Int) != (wd[j].toNat : Int)) = false) : text.data[P + j]? = wd.data[j]? := by
  have e1 : wd.size = wd.data.size := rfl
  have e2 : text.size = text.data.size := rfl
  rw [Array.getElem?_eq_getElem (by omega), Array.getElem?_eq_getElem (by omega)]
  simp only [bne_eq_false_iff_eq] at h
  have h2 : text[P + j].toNat = wd[j].toNat := by omega
  exact congrArg some (UInt8.toNat_inj.1 h2)

theorem toList_ne {a b : ByteArray} (h : ¬ a = b) : (a.toList == b.toList) = false := by
  rw [beq_eq_false_iff_ne]
  intro e
  rw [ByteArray.toList_eq, ByteArray.toList_eq] at e
  exact h (ByteArray.ext (Array.toList_inj.mp e))

theorem below_draws (B : Nat) (w : World) (n : Nat) : Below B w (w.drewN n) := below_drewN (Below.refl B w) n

/-- The word lies in the text at p. -/
def Hit (text : ByteArray) (p : Nat) (word : ByteArray) : Prop := p + word.size ≤ text.size ∧ text.extract p (p + word.size) = word

theorem Dec.putPos {w : World} {b : Nat} {text : ByteArray} {pos depth : Int} (h : Dec w b text pos depth) (p : Int) : Dec (w.setCell ⟨b, 1, none⟩ (.int .i64 p)) b text p depth := by
  obtain ⟨h1, h2, h3, h4, h5⟩ := h
  refine ⟨?_, ?_, ?_, ?_, ?_⟩ <;> go_simp

set_option maxHeartbeats 400000 in
theorem literal_hit (b p : Nat) (text word : ByteArray) (depth : Int) (v : Value) (w : World) (ht : text.size ≤ 1024) (hw : word.size ≤ 1024) (hd : Dec w b text p depth) (h : Hit text p word) :
    Calls Ybad.prog 10 #[.pointer (some ⟨b, 0, none⟩), .string word, v] w fun e w' => e = .returned (.tuple #[v, .nilIface]) ∧ Dec w' b text (p + word.size : Nat) depth ∧ Below b w w' := by
  obtain ⟨c0, c1, c2, f1, f2⟩ := id hd
  obtain ⟨h1, h2⟩ := h
  have HD := hide hd
  clear hd c2 f2
  have hg : decide ((text.size : Int) < (p : Int) + (word.size : Int)) = false := by simp; omega
  go_enter Ybad.func10, Ybad.ntmps10
  go_wp2_with fail
  go_quiet (fail)
  go_wp2
  go_ret2
  have hb := hide (below_draws w.heap.size w nq)
  exact ⟨rfl, ((unhide HD).later (unhide hb)).putPos _, (below_draws b w nq).setCell (p := ⟨b, 1, none⟩) (Nat.le_refl _) _⟩

set_option maxHeartbeats 400000 in
theorem literal_miss (b p : Nat) (text word : ByteArray) (depth : Int) (v : Value) (w : World) (ht : text.size ≤ 1024) (hp : p ≤ text.size) (hw : word.size ≤ 1024) (hd : Dec w b text p depth) (h : ¬ Hit text p word) (htab : Tab w) :
    Calls Ybad.prog 10 #[.pointer (some ⟨b, 0, none⟩), .string word, v] w fun e w' => ∃ u, e = .returned (.tuple #[.nilIface, .iface 36 u]) ∧ Dec w' b text p depth ∧ Below b w w' := by
  obtain ⟨c0, c1, c2, f1, f2⟩ := id hd
  have HD := hide hd
  have HT := hide htab
  clear hd c2 f2 htab
  by_cases h1 : p + word.size ≤ text.size
  · have h2 := toList_ne (fun e => h ⟨h1, e⟩ : ¬ text.extract p (p + word.size) = word)
    clear h
    have hg : decide ((text.size : Int) < (p : Int) + (word.size : Int)) = false := by simp; omega
    go_enter Ybad.func10, Ybad.ntmps10
    go_wp2_with fail
    go_quiet (fail)
    go_wp2_with fail
    have hb := below_draws w.heap.size w nq
    refine (errorAt_any b p _ (w.drewN nq) (by rw [mk_size]; simp) ((unhide HD).later hb).p (by unfold I64; omega) ((unhide HT).on hb (unhide HT).pos)).mono ?_
    rintro e w1 ⟨u, rfl, hb1⟩
    have hlt := World.block_lt_of_cell? _ _ (unhide HD).t
    have H1 := hide (((unhide HD).later hb).later hb1)
    have HB1 := hide ((below_draws b w nq).trans (hb1.mono (Nat.le_of_lt (by simpa using hlt))))
    clear HD HT hb hb1 c0 c1 f1 hlt
    go_wp2
    go_ret2
    exact ⟨_, rfl, unhide H1, unhide HB1⟩
  · clear h
    have hg : decide ((text.size : Int) < (p : Int) + (word.size : Int)) = true := by simp; omega
    go_enter Ybad.func10, Ybad.ntmps10
    go_wp2_with fail
    go_quiet (fail)
    go_wp2_with fail
    have hb := below_draws w.heap.size w nq
    refine (errorAt_any b p _ (w.drewN nq) (by rw [mk_size]; simp) ((unhide HD).later hb).p (by unfold I64; omega) ((unhide HT).on hb (unhide HT).pos)).mono ?_
    rintro e w1 ⟨u, rfl, hb1⟩
    have hlt := World.block_lt_of_cell? _ _ (unhide HD).t
    have H1 := hide (((unhide HD).later hb).later hb1)
    have HB1 := hide ((below_draws b w nq).trans (hb1.mono (Nat.le_of_lt (by simpa using hlt))))
    clear HD HT hb hb1 c0 c1 f1 hlt
    go_wp2
    go_ret2
    exact ⟨_, rfl, unhide H1, unhide HB1⟩

set_option maxHeartbeats 400000 in
theorem reads_big (text word : ByteArray) (p0 sel k n : Int) (w : World) (ht : text.size ≤ maxLen) (hw : word.size ≤ maxLen) (h : 1024 < text.size ∨ 1024 < word.size) :
    Calls Ybad.prog 6 #[.string text, .int .u64 p0, .int .u8 sel, .int .u8 k, .string word, .int .i64 n] w (Yes w) := by
  unfold maxLen at ht hw
  by_cases h1 : 1024 < text.size
  · have h2 : (1024 : Int) < (text.size : Int) := by omega
    go_enter Ybad.func6, Ybad.ntmps6
    go_wp2
    go_ret
    exact ⟨rfl, Below.refl _ _⟩
  · have h2 : (text.size : Int) ≤ 1024 := by omega
    have h3 : (1024 : Int) < (word.size : Int) := by omega
    go_enter Ybad.func6, Ybad.ntmps6
    go_wp2
    go_ret
    exact ⟨rfl, Below.refl _ _⟩

set_option maxRecDepth 100000 in
set_option maxHeartbeats 1000000 in
theorem reads_small (text word : ByteArray) (p0 sel k n : Int) (w : World) (hp0 : 0 ≤ p0) (hs : 0 ≤ sel ∧ sel ≤ 255) (hk : 0 ≤ k ∧ k ≤ 255) (ht : text.size ≤ 1024) (hw : word.size ≤ 1024) (htab : Tab w) :
    Calls Ybad.prog 6 #[.string text, .int .u64 p0, .int .u8 sel, .int .u8 k, .string word, .int .i64 n] w (Yes w) := by
  obtain ⟨hs0, hs1⟩ := hs
  obtain ⟨hk0, hk1⟩ := hk
  have hti : (text.size : Int) ≤ 1024 := by omega
  have hwi : (word.size : Int) ≤ 1024 := by omega
  obtain ⟨P, hP⟩ : ∃ P : Nat, p0 % ((text.size : Int) + 1) = (P : Int) := ⟨(p0 % ((text.size : Int) + 1)).toNat, by have := Int.emod_nonneg p0 (show (text.size : Int) + 1 ≠ 0 by omega); omega⟩
  have hPt : P ≤ text.size := by have := Int.emod_lt_of_pos p0 (show 0 < (text.size : Int) + 1 by omega); omega
  have hPt' : (P : Int) ≤ text.size := by omega
  have HT := hide htab
  have d1 : decide ((1024 : Int) < (text.size : Int)) = false := by simp; omega
  have d2 : decide ((1024 : Int) < (word.size : Int)) = false := by simp; omega
  clear htab
  go_enter Ybad.func6, Ybad.ntmps6
  go_upto_block 0 with fail
  go_cut [14] (fun s wc => ∃ wd : ByteArray, s = .string wd ∧ wd.size ≤ 1024 ∧ wc = w)
  case first =>
    clear hP HT
    by_cases e0 : sel % 3 = 0
    · have b0 : (sel % 3 == 0) = true := by simp [e0]
      clear e0
      go_wp2_with fail
      refine (cword_any _ _).mono ?_
      rintro e w' ⟨s, rfl, hss, rfl⟩
      go_wp2_with fail
      go_meet
      case rel => exact ⟨_, rfl, hss, rfl⟩
    · have b0 : (sel % 3 == 0) = false := by simp [e0]
      by_cases e1 : sel % 3 = 1
      · have b1 : (sel % 3 == 1) = true := by simp [e1]
        clear e0 e1
        have hm0 : 0 ≤ k % 8 := by omega
        have hm1 : k % 8 ≤ 7 := by omega
        go_wp2_with fail
        all_goals
          go_meet
          case rel => exact ⟨_, rfl, by rw [ByteArray.size_extract]; omega, rfl⟩
      · have b1 : (sel % 3 == 1) = false := by simp [e1]
        clear e0 e1
        go_wp2_with fail
        go_meet
        case rel => exact ⟨_, rfl, hw, rfl⟩
  case rest =>
    obtain ⟨wd, rfl, hwd, rfl⟩ := hcut
    clear hP
    have HN := hide (Dec.new wc text P sel)
    have HB : Hid (Below wc.heap.size wc (wc.alloc (.cells #[.string text, .int .i64 P, .int .i64 sel] 24))) := hide ((Below.refl _ _).alloc (Nat.le_refl _) _)
    have HT1 := hide ((unhide HT).on (unhide HB) (unhide HT).pos)
    have hwdi : (wd.size : Int) ≤ 1024 := by omega
    clear HT
    go_wp2_with fail
    by_cases hh : Hit text P wd
    · refine (literal_hit wc.heap.size P text wd sel _ _ ht hwd (unhide HN) hh).mono ?_
      rintro e w1 ⟨rfl, ⟨c0, c1, c2, f1, f2⟩, hb1⟩
      have HB1 := hide ((unhide HB).trans hb1)
      obtain ⟨hle, hex⟩ := hh
      have HE := hide hex
      have hlei : (P : Int) + (wd.size : Int) ≤ text.size := by omega
      clear HN HB HT1 hb1 f1 f2 hex
      go_wp2
      go_loopw [20, 21] (fun o i wr => ∃ j : Nat, j ≤ wd.size ∧ i = .int .i64 j ∧ o = .bool true ∧ Below w1.heap.size w1 wr) (fun _ i _ => wd.size - (intOf i).toNat)
      case atStart => exact ⟨0, Nat.zero_le _, rfl, rfl, Below.refl _ _⟩
      case round =>
        obtain ⟨j, hj, rfl, rfl, hbr⟩ := hrel
        by_cases hlt : j < wd.size
        · have hi1 : (j : Int) < (wd.size : Int) := by omega
          have hi2 : (P : Int) + (j : Int) < (text.size : Int) := by omega
          have hi3 : (0 : Int) ≤ (P : Int) + (j : Int) := by omega
          have hq : ((text[P + j].toNat : Int) != (wd[j].toNat : Int)) = false := by rw [hit_at text wd P j hle (unhide HE) hlt]; simp
          go_wp2
          go_quiet (fail)
          go_wp2
          go_roundw
          case rel => exact ⟨j + 1, by omega, by go_num, rfl, below_drewN hbr _⟩
          case measure => simp [intOf]; omega
        · have e0 := cell_later hbr c0
          have e1 := cell_later hbr c1
          have e2 := cell_later hbr c2
          have HB2 := hide ((unhide HB1).trans (hbr.mono (unhide HB1).size))
          clear c0 c1 c2 hbr HE
          have hqq := eql_same n
          go_wp2
          go_ret
          exact ⟨rfl, unhide HB2⟩
    · refine (literal_miss wc.heap.size P text wd sel _ _ ht hPt hwd (unhide HN) hh (unhide HT1)).mono ?_
      rintro e w1 ⟨u, rfl, ⟨c0, c1, c2, f1, f2⟩, hb1⟩
      have HB1 := hide ((unhide HB).trans hb1)
      clear HN HB HT1 hb1 f1 f2
      by_cases hle : P + wd.size ≤ text.size
      · have hlei : (P : Int) + (wd.size : Int) ≤ text.size := by omega
        have HE := hide (fun e => hh ⟨hle, e⟩ : ¬ text.extract P (P + wd.size) = wd)
        clear hh
        go_wp2
        go_loopw [20, 21] (fun o i wr => ∃ j : Nat, j ≤ wd.size ∧ i = .int .i64 j ∧ o = .bool true ∧ (∀ i, i < j → text.data[P + i]? = wd.data[i]?) ∧ Below w1.heap.size w1 wr) (fun _ i _ => wd.size - (intOf i).toNat)
        case atStart => exact ⟨0, Nat.zero_le _, rfl, rfl, fun i hi => absurd hi (Nat.not_lt_zero _), Below.refl _ _⟩
        case round =>
          obtain ⟨j, hj, rfl, rfl, hall, hbr⟩ := hrel
          have HJ := hide hall
          clear hall
          by_cases hlt : j < wd.size
          · have hi1 : (j : Int) < (wd.size : Int) := by omega
            have hi2 : (P : Int) + (j : Int) < (text.size : Int) := by omega
            have hi3 : (0 : Int) ≤ (P : Int) + (j : Int) := by omega
            cases hq : ((text[P + j].toNat : Int) != (wd[j].toNat : Int)) with
            | false =>
              have HQ := hide (at_of text wd P j (by omega) hlt hq)
              go_wp2
              go_quiet (fail)
              go_wp2
              go_roundw
              case rel => exact ⟨j + 1, by omega, by go_num, rfl, fun i hi => by
                rcases Nat.lt_succ_iff_lt_or_eq.1 hi with h | h
                · exact unhide HJ i h
                · rw [h]; exact unhide HQ, below_drewN hbr _⟩
              case measure => simp [intOf]; omega
            | true =>
              have e0 := cell_later hbr c0
              have e1 := cell_later hbr c1
              have e2 := cell_later hbr c2
              have HB2 := hide ((unhide HB1).trans (hbr.mono (unhide HB1).size))
              clear c0 c1 c2 hbr HE HJ
              go_wp2
              go_quiet (fail)
              go_wp2
              go_ret
              exact ⟨rfl, below_drewN (unhide HB2) _⟩
          · have e : j = wd.size := by omega
            subst e
            exact absurd (miss_end text wd P hle (unhide HJ)) (unhide HE)
      · have hlei : (text.size : Int) < (P : Int) + (wd.size : Int) := by omega
        clear hh
        go_wp2
        go_ret
        exact ⟨rfl, unhide HB1⟩

theorem reads_any (text : ByteArray) (p0 sel k : Int) (word : ByteArray) (n : Int) (w : World) (hp0 : 0 ≤ p0 ∧ p0 < 18446744073709551616) (hs : 0 ≤ sel ∧ sel ≤ 255) (hk : 0 ≤ k ∧ k ≤ 255) (ht : text.size ≤ maxLen) (hw : word.size ≤ maxLen) (_hn : I64 n) (htab : Tab w) :
    Calls Ybad.prog 6 #[.string text, .int .u64 p0, .int .u8 sel, .int .u8 k, .string word, .int .i64 n] w (Yes w) := by
  by_cases h : 1024 < text.size ∨ 1024 < word.size
  · exact reads_big text word p0 sel k n w ht hw h
  · exact reads_small text word p0 sel k n w hp0.1 hs hk (by omega) (by omega) htab
end Go.Proofs.YbulkanjoDoor.Dw
