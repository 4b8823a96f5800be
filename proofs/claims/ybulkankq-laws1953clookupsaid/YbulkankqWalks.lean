/- The walks of (*TopSum).tally and LawS1953CLookup. -/
import Derived.Test.YbulkankqRows
import Derived.WalkKit
import Derived.WalkSpells
import Derived.WalkSmall
import Derived.Maps.Own
import Derived.Maps.Views
import Derived.LaidEqlPtr
import Derived.Deep.DeepCutAuto
namespace Go.Proofs.Ybulkankq.Lk
open Go.RowKit
open Go.ChangeMaps Go.MapKept Go.WideMaps
open Go.Maps (Keyed)

theorem hide {p : Prop} (h : p) : Hid p := h
theorem unhide {p : Prop} (h : Hid p) : p := h

theorem info26 : (Yba.prog.info? 26).map (fun i => (i.zero, i.size, i.bytes)) = some (some (.pointer none), 1, 8) := by kernel_rfl
theorem mk_map (n : Int) (w : World) : (Instr.makeMap 28 (some (.int .i64 n))).run Yba.prog w = .ok (.map (some w.heap.size)) (w.alloc (.map #[] 0)) := by kernel_rfl
theorem keyed : Keyed Yba.prog 9 := Maps.string_keyed Yba.underlying9

theorem tally_nil (b : Nat) (q : ByteArray) (w : World) (h : w.cell? ⟨b, 0, none⟩ = some (.pointer none)) :
    Calls Yba.prog 4 #[.pointer (some ⟨b, 0, none⟩), .string q] w fun e w' => e = .returned (.pointer none) ∧ w' = w := by
  go_enter Yba.func4, Yba.ntmps4
  go_wp2
  go_ret
  exact ⟨rfl, rfl⟩

theorem tally_some (b bt : Nat) (r : Option Nat) (q : ByteArray) (v : Value) (w : World) (h : w.cell? ⟨b, 0, none⟩ = some (.pointer (some ⟨bt, 0, none⟩))) (ht : w.cell? ⟨bt, 0, none⟩ = some (.map r))
    (hl : (Instr.lookup 28 (.map r) (.string q) false).run Yba.prog w = .ok v w) :
    Calls Yba.prog 4 #[.pointer (some ⟨b, 0, none⟩), .string q] w fun e w' => e = .returned v ∧ w' = w := by
  go_enter Yba.func4, Yba.ntmps4
  go_wp2
  go_ret
  exact ⟨rfl, rfl⟩

/-- How a pointer of the map's elements is told. -/
def R (v : Value) : Option (DataW Unit × List MemPlace) :=
  match v with
  | .pointer none => some (.nil, [])
  | .pointer (some ⟨b, 0, none⟩) => some (.lit (.int .i64 b), [])
  | _ => none

theorem R_nil : R (.pointer none) = some (.nil, []) := rfl
theorem R_ptr (b : Nat) : R (.pointer (some ⟨b, 0, none⟩)) = some (.lit (.int .i64 b), []) := rfl
theorem R_inj {v v' : Value} {d : DataW Unit} {p p' : List MemPlace} (h : R v = some (d, p)) (h' : R v' = some (d, p')) : v = v' := by
  unfold R at h h'
  split at h <;> split at h' <;> simp_all
  all_goals first | (obtain ⟨rfl, _⟩ := h; simp at h'; omega) | (obtain ⟨rfl, _⟩ := h; simp at h')

theorem R_shape {v : Value} {z : DataW Unit × List MemPlace} (h : R v = some z) : v = .pointer none ∨ ∃ b, v = .pointer (some ⟨b, 0, none⟩) := by
  unfold R at h
  split at h <;> simp_all

/-- The pointer last stored under q among the first k keys. -/
def wantTo (xs : List Value) (S : Nat → ByteArray) (q : ByteArray) : Nat → Value
  | 0 => .pointer none
  | k + 1 => if S k = q then xs.getD k (.pointer none) else wantTo xs S q k

theorem wantTo_set (xs : List Value) (S : Nat → ByteArray) (q : ByteArray) (v : Value) : ∀ (j k : Nat), k ≤ j → wantTo (xs.set j v) S q k = wantTo xs S q k
  | _, 0, _ => rfl
  | j, k + 1, h => by
    simp only [wantTo]
    rw [wantTo_set xs S q v j k (by omega)]
    have : (xs.set j v).getD k (.pointer none) = xs.getD k (.pointer none) := by
      simp only [List.getD]
      rw [List.getElem?_set_ne (by omega)]
    rw [this]

theorem wantTo_hit {xs : List Value} {S : Nat → ByteArray} {q : ByteArray} {k : Nat} (h : S k = q) : wantTo xs S q (k + 1) = xs.getD k (.pointer none) := by simp [wantTo, h]
theorem wantTo_miss {xs : List Value} {S : Nat → ByteArray} {q : ByteArray} {k : Nat} (h : ¬ S k = q) : wantTo xs S q (k + 1) = wantTo xs S q k := by simp [wantTo, h]

/-- The map holds under q what 'wantTo' says. -/
def Told (D : DataW Unit) (q : ByteArray) (v : Value) : Prop := R v = some (D.atKey (.string q.data.toList) .nil, [])

theorem key_ne {a b : ByteArray} (h : ¬ a = b) : (Lit.string b.data.toList) ≠ Lit.string a.data.toList := by
  intro e
  simp only [Lit.string.injEq] at e
  exact h (ByteArray.ext (Array.toList_inj.mp e.symm))

/-- One round: a new pointer is stored under S k. -/
theorem told_step {w : World} {D : DataW Unit} {bm n k nb : Nat} {xs : List Value} {S : Nat → ByteArray} {q : ByteArray} (hm : w.ownsMap Yba.prog 9 R bm n D) (hk : k < xs.length) (h : Told D q (wantTo xs S q k)) :
    Told (D.put (.string (S k).data.toList) (.lit (.int .i64 nb))) q (wantTo (xs.set k (.pointer (some ⟨nb, 0, none⟩))) S q (k + 1)) := by
  have hD : Maps.IsMap D := by obtain ⟨_, _, _, _, _, e⟩ := hm; exact ⟨_, e⟩
  unfold Told at h ⊢
  by_cases e : S k = q
  · rw [wantTo_hit e, ← e]
    have hg : (xs.set k (Value.pointer (some ⟨nb, 0, none⟩))).getD k (.pointer none) = .pointer (some ⟨nb, 0, none⟩) := by simp [List.getD, hk]
    rw [hg, Maps.atKey_put_same hD (by simp [WideAt.IsKeyLit]), R_ptr]
  · rw [wantTo_miss e, wantTo_set _ _ _ _ _ _ (Nat.le_refl _), Maps.atKey_put_other (key_ne e)]
    exact h

theorem toList_ne {a b : ByteArray} (h : ¬ a = b) : (a.toList == b.toList) = false := by
  rw [beq_eq_false_iff_ne]
  intro e
  rw [ByteArray.toList_eq, ByteArray.toList_eq] at e
  exact h (ByteArray.ext (Array.toList_inj.mp e))

/-- A new pointer lies in cell k of the row; then the map is written. -/
theorem map_later {wr : World} {B M k n : Nat} {xs : List Value} {D : DataW Unit} (v : Value) (o : Obj) (hBM : B < M) (hin : wr.ownsRow B 26 1 (.slice (some ⟨B, 0, none⟩) n n) n xs) (hmap : wr.ownsMap Yba.prog 9 R M k D) :
    ((wr.setCell ⟨B, k, none⟩ v).alloc o).ownsMap Yba.prog 9 R M k D :=
  (hmap.kept (hin.stored k v).2 (by simp; omega)).alloc o

theorem step1 {w wr w2 : World} {M k n : Nat} {xs : List Value} {D : DataW Unit} {S : Nat → ByteArray} {q : ByteArray} (o : Obj) (hBM : w.heap.size < M) (hk : k < n)
    (hin : wr.ownsRow w.heap.size 26 1 (.slice (some ⟨w.heap.size, 0, none⟩) n n) n xs) (hmap : wr.ownsMap Yba.prog 9 R M k D) (htold : Told D q (wantTo xs S q k)) (hbel : Below w.heap.size w wr)
    (hgrow : ((wr.setCell ⟨w.heap.size, k, none⟩ (.pointer (some ⟨wr.heap.size, 0, none⟩))).alloc o).grownBy w2 (some M)) :
    w2.ownsRow w.heap.size 26 1 (.slice (some ⟨w.heap.size, 0, none⟩) n n) n (xs.set k (.pointer (some ⟨wr.heap.size, 0, none⟩))) ∧
    Told (D.put (.string (S k).data.toList) (.lit (.int .i64 wr.heap.size))) q (wantTo (xs.set k (.pointer (some ⟨wr.heap.size, 0, none⟩))) S q (k + 1)) ∧ Below w.heap.size w w2 := by
  have hl : xs.length = n := by simpa using hin.1
  have hbs : w.heap.size < wr.heap.size := (hin.lt w.heap.size rfl).2
  refine ⟨((hin.stored k _).1.alloc _).kept hgrow (.inr (by simp [Value.ownBlock]; omega)), told_step hmap (by omega) htold, ?_⟩
  exact ((hbel.setCell (p := ⟨w.heap.size, k, none⟩) (Nat.le_refl _) _).alloc (by simp; omega) _).grown hgrow (by simp; omega) (fun j hj => by simp at hj; omega)

theorem info44 : (Yba.prog.info? 44).isSome = true := by kernel_rfl
theorem eql_ptr (a : Addr) (w : World) : (binOp .eql 26 (.pointer (some a)) (.pointer (some a))).run Yba.prog w = .ok (.bool true) w := by
  obtain ⟨j, hj⟩ := Option.isSome_iff_exists.1 info44
  exact run_eql_ptr_same w a Yba.underlying26 hj

/-- The look-up hands back the very pointer. -/
theorem look_told {w : World} {D : DataW Unit} {M n : Nat} {q : ByteArray} {y : Value} (hm : w.ownsMap Yba.prog 9 R M n D) (hkey : keyOf Yba.prog 9 (.string q) = some (.string q.data.toList)) (ht : Told D q y) (o1 o2 : Obj) :
    ∃ v, (Instr.lookup 28 (.map (some M)) (.string q) false).run Yba.prog ((w.alloc o1).alloc o2) = .ok v ((w.alloc o1).alloc o2) ∧ v = y := by
  obtain ⟨v, ps, hrun, hR⟩ := ((hm.alloc o1).alloc o2).lookup (e := 26) keyed Yba.underlying28 (z := .pointer none) (by kernel_rfl) R_nil hkey
  exact ⟨v, hrun, R_inj hR ht⟩

def Yes (w : World) (e : Ending) (w' : World) : Prop := e = .returned (.bool true) ∧ Below w.heap.size w w'

theorem look_big (ao : Option Addr) (n c : Nat) (q : ByteArray) (pick mode : Int) (use : Bool) (w : World) (hm : n ≤ maxLen) (h : 1024 < n) :
    Calls Yba.prog 3 #[.slice ao n c, .string q, .int .u8 pick, .bool use, .int .u8 mode] w (Yes w) := by
  unfold maxLen at hm
  have h2 : (1024 : Int) < (n : Int) := by omega
  go_enter Yba.func3, Yba.ntmps3
  go_wp2
  go_ret
  exact ⟨rfl, Below.refl _ _⟩

theorem look_nilmap (q : ByteArray) (w : World) : (Instr.lookup 28 (.map none) (.string q) false).run Yba.prog w = .ok (.pointer none) w := by
  kernel_rfl

set_option maxRecDepth 100000 in
set_option maxHeartbeats 1000000 in
theorem look_small (ao : Option Addr) (b off n c : Nat) (S : Nat → ByteArray) (q0 : ByteArray) (pick mode : Int) (use : Bool) (w : World) (hn : n ≤ 1024) (ha : 0 < n → ao = some ⟨b, off, none⟩)
    (hc : ∀ i, i < n → w.cell? ⟨b, off + i, none⟩ = some (.string (S i)) ∧ (S i).size ≤ maxLen) (hq0 : q0.size ≤ maxLen) (hp : 0 ≤ pick ∧ pick ≤ 255) (hmo : 0 ≤ mode ∧ mode ≤ 255) :
    Calls Yba.prog 3 #[.slice ao n c, .string q0, .int .u8 pick, .bool use, .int .u8 mode] w (Yes w) := by
  obtain ⟨hp0, hp1⟩ := hp
  obtain ⟨hm0, hm1⟩ := hmo
  have hni : (n : Int) ≤ 1024 := by omega
  have h1024 : ¬ (1024 : Int) < (n : Int) := by omega
  have HC := hide hc
  have HA := hide ha
  clear hc ha
  go_enter Yba.func3, Yba.ntmps3
  go_upto_region 3 with fail
  go_cut [30] (fun v wc => ∃ t : Bool, v = .bool t ∧ (t = true → 0 < n) ∧ wc = w)
  case first =>
    cases use with
    | false =>
      go_wp2_with fail
      go_meet
      case rel => exact ⟨false, rfl, by simp, rfl⟩
    | true =>
      go_wp2_with fail
      go_meet
      case rel => exact ⟨decide (0 < n), rfl, by simp, rfl⟩
  case rest =>
    obtain ⟨t, rfl, ht, rfl⟩ := hcut
    have HT := hide ht
    clear ht
    go_upto_if 30 with fail
    go_cut [1] (fun v wd => ∃ q : ByteArray, v = .string q ∧ q.size ≤ maxLen ∧ wd = wc)
    case first =>
      cases t with
      | false =>
        go_wp2_with fail
        go_meet
        case rel => exact ⟨_, rfl, hq0, rfl⟩
      | true =>
        have hz := unhide HT rfl
        obtain rfl := unhide HA hz
        have hnz : ((n : Int) == 0) = false := by simp; omega
        obtain ⟨j, hj⟩ : ∃ j : Nat, pick % (n : Int) = (j : Int) := ⟨(pick % (n : Int)).toNat, by have := Int.emod_nonneg pick (show (n : Int) ≠ 0 by omega); omega⟩
        have hjn : j < n := by have := Int.emod_lt_of_pos pick (show 0 < (n : Int) by omega); omega
        obtain ⟨hcj, hsj⟩ := unhide HC j hjn
        go_wp2_with fail
        go_meet
        case rel => exact ⟨_, rfl, hsj, rfl⟩
    case rest =>
      obtain ⟨q, rfl, hq, rfl⟩ := hcut
      clear HT
      rcases (show mode % 3 = 0 ∨ mode % 3 = 1 ∨ mode % 3 = 2 by omega) with hmm | hmm | hmm
      · go_wp2_with fail
        refine (tally_nil _ q _ (by simp)).mono ?_
        rintro e w1 ⟨rfl, rfl⟩
        go_wp2
        go_ret
        exact ⟨rfl, (Below.refl _ _).alloc (Nat.le_refl _) _⟩
      · go_wp2_with fail
        refine (tally_some (wc.heap.size + 1) wc.heap.size none q _ _ (by simp) (by simp) (look_nilmap _ _)).mono ?_
        rintro e w1 ⟨rfl, rfl⟩
        go_wp2
        go_ret
        exact ⟨rfl, ((Below.refl _ _).alloc (Nat.le_refl _) _).alloc (by simp) _⟩
      · have hmk := mk_map
        obtain ⟨i0, hi, hz0, hz1, hz2⟩ := info_parts info26
        go_wp2_with (at_make; refine wpList_make_full _ rfl _ _ 36 rfl wc.heap.size 26 i0 (.pointer none) 1 Yba.underlying36 hi hz0 hz1 _ _ _ _ n rfl rfl rfl rfl (by rw [hz2]; omega) (by unfold maxLen; omega) (Nat.le_refl _) ?_)
        intro w1 hown hgrow
        have hb1 : Below wc.heap.size wc w1 := (Below.refl _ _).grown hgrow (Nat.le_refl _) (fun k h => by simp at h)
        have hs1 := (hown.lt _ rfl).2
        clear hgrow
        have hs1' : wc.heap.size < w1.heap.size := hs1
        go_wp2
        clear hmk
        go_loopw [62] (fun i wr => ∃ (k : Nat) (xs : List Value) (D : DataW Unit), k ≤ n ∧ i = .int .i64 k ∧ wr.ownsRow wc.heap.size 26 1 (.slice (some ⟨wc.heap.size, 0, none⟩) n n) n xs ∧ wr.ownsMap Yba.prog 9 R w1.heap.size k D ∧
            Told D q (wantTo xs S q k) ∧ Below wc.heap.size wc wr) (fun i _ => n - (intOf i).toNat)
        case atStart => exact ⟨0, _, _, Nat.zero_le _, rfl, hown.alloc _, World.ownsMap_made _ _ _ _, rfl, hb1.alloc (by omega) _⟩
        case round =>
          obtain ⟨k, xs, D, hk, rfl, hin, hmap, htold, hbel⟩ := hrel
          have hxl : xs.length = n := by simpa using hin.1
          clear hown hb1 hs1
          by_cases hlt : k < n
          · obtain rfl := unhide HA (by omega)
            obtain ⟨ck, hsk⟩ := unhide HC k hlt
            have hck := cell_later hbel ck
            have hic : wr.cell? ⟨wc.heap.size, k, none⟩ = some (xs.getD k (.pointer none)) := by rw [hin.cellAt k (by omega)]; simp [hxl, hlt]
            have hfr := hin.frozenAt k
            have hbs : wc.heap.size < wr.heap.size := (hin.lt wc.heap.size rfl).2
            generalize xs.getD k (.pointer none) = x at hic
            clear ck
            have hkey := keyOf_string_mk Yba.underlying9 hsk
            have HM := fun o => map_later (k := k) (.pointer (some ⟨wr.heap.size, 0, none⟩)) o hs1' hin hmap
            clear HA
            go_wp2_with (at_mapUpdate; refine wpList_mapUpdate_own _ rfl _ _ _ 28 rfl 9 26 keyed Yba.underlying28 R w1.heap.size k _ rfl (HM _) (by unfold maxLen; omega) _ _ _ rfl rfl hkey _ [] (R_ptr _) ?_)
            intro w2 hmap2 hgrow2
            obtain ⟨R1, R2, R3⟩ := step1 _ hs1' hlt hin hmap htold hbel hgrow2
            clear HM hkey hgrow2 hin hmap htold hbel hck hic hfr hbs
            go_wp2
            go_roundw
            case rel => exact ⟨k + 1, _, _, by omega, by go_num, R1, hmap2, R2, R3⟩
            case measure => simp [intOf]; omega
          · have e : k = n := by omega
            subst e
            go_wp2
            go_loop [17, 83] (fun v i => ∃ j : Nat, j ≤ k ∧ i = .int .i64 j ∧ v = wantTo xs S q j) (fun _ i => k - (intOf i).toNat)
            case atStart => exact ⟨0, Nat.zero_le _, rfl, rfl⟩
            case round =>
              obtain ⟨j, hj, rfl, rfl⟩ := hrel
              by_cases hjl : j < k
              · obtain rfl := unhide HA (by omega)
                obtain ⟨ck, hsk⟩ := unhide HC j hjl
                have hck := cell_later hbel ck
                have hic : wr.cell? ⟨wc.heap.size, j, none⟩ = some (xs.getD j (.pointer none)) := by rw [hin.cellAt j (by omega)]; simp [hxl, hjl]
                by_cases he : S j = q
                · have hb : ((S j).toList == q.toList) = true := by rw [he]; simp
                  have HW := hide (wantTo_hit (xs := xs) he)
                  clear ck HA he hsk
                  generalize xs.getD j (.pointer none) = x at *
                  generalize wantTo xs S q j = y at *
                  go_wp2
                  go_round
                  case rel => exact ⟨j + 1, by omega, by go_num, by rw [unhide HW]⟩
                  case measure => simp [intOf]; omega
                · have hb := toList_ne he
                  have HW := hide (wantTo_miss (xs := xs) he)
                  clear ck HA he hsk
                  generalize wantTo xs S q j = y at *
                  go_wp2
                  go_round
                  case rel => exact ⟨j + 1, by omega, by go_num, by rw [unhide HW]⟩
                  case measure => simp [intOf]; omega
              · have e : j = k := by omega
                subst e
                have HD := hide htold
                have hkey := hide (keyOf_string_mk Yba.underlying9 hq)
                have HM := hide hmap
                have HB := hide hbel
                have hbs : wc.heap.size < wr.heap.size := (hin.lt wc.heap.size rfl).2
                clear htold hmap hin hbel HC HA
                generalize wantTo xs S q j = y at *
                go_wp2_with fail
                obtain ⟨v, hrun, hR⟩ := look_told (unhide HM) (unhide hkey) (unhide HD) (.cells #[.map (some w1.heap.size), .int .i64 0, .slice none 0 0, .map none, .int .i64 0, .pointer none] 35) (.cells #[.pointer (some ⟨wr.heap.size, 0, none⟩)] 25)
                subst hR
                refine (tally_some (wr.heap.size + 1) wr.heap.size (some w1.heap.size) q _ _ (by simp) (by simp) hrun).mono ?_
                rintro e w2 ⟨rfl, rfl⟩
                have HB2 := hide (((unhide HB).alloc (Nat.le_of_lt hbs) (.cells #[.map (some w1.heap.size), .int .i64 0, .slice none 0 0, .map none, .int .i64 0, .pointer none] 35)).alloc (by simp; omega) (.cells #[.pointer (some ⟨wr.heap.size, 0, none⟩)] 25))
                have hsh := R_shape (unhide HD)
                clear HB HM HD hkey hrun
                rcases hsh with rfl | ⟨bb, rfl⟩
                · go_wp2
                  go_ret
                  exact ⟨rfl, unhide HB2⟩
                · have hqq := eql_ptr ⟨bb, 0, none⟩
                  go_wp2
                  go_ret
                  exact ⟨rfl, unhide HB2⟩
end Go.Proofs.Ybulkankq.Lk
