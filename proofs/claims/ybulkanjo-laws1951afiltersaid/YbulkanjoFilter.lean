/- The walk of 'LawS1951AFilter' (function 3): it returns true. -/
import Derived.Test.YbulkanjoBuild
import Derived.WalkSmall
namespace Go.Proofs.Ybulkanjo.Flt
open Go.RowKit

theorem filter_big (a : Option Addr) (n c : Nat) (w : World) (h : 1024 < n) (hm : n ≤ maxLen) : Calls Yba.prog 3 #[.slice a n c] w fun e w' => e = .returned (.bool true) ∧ Below w.heap.size w w' := by
  unfold maxLen at hm
  have h' : (1024 : Int) < (n : Int) := by omega
  go_enter Yba.func3, Yba.ntmps3
  go_wp2
  go_ret
  exact ⟨rfl, Below.refl _ _⟩

/-- Behind both calls: the comparison of two rows that hold the same strings. -/
theorem strs_cell {w : World} {B g cap : Nat} {ss : List ByteArray} (h : w.ownsRow B 9 1 (.slice (some ⟨g, 0, none⟩) ss.length cap) ss.length (ss.map Value.string)) (j : Nat) (hj : j < ss.length) :
    w.cell? ⟨g, j, none⟩ = some (.string (ss.getD j ByteArray.empty)) := by
  rw [h.cellAt j (by omega)]
  simp [hj]

set_option maxHeartbeats 1000000 in
theorem filter_some (a : Addr) (b off n c : Nat) (K : Nat → Int) (S : Nat → ByteArray) (N : Nat → Int) (w : World) (hn : n ≤ 1024) (ha : 0 < n → a = ⟨b, off, none⟩)
    (hK : ∀ i, 0 ≤ K i ∧ K i ≤ 255)
    (hc : ∀ i, i < n → w.cell? ⟨b, off + i * 3, none⟩ = some (.int .u8 (K i)) ∧ w.cell? ⟨b, off + i * 3 + 1, none⟩ = some (.string (S i)) ∧ w.cell? ⟨b, off + i * 3 + 2, none⟩ = some (.int .i64 (N i))) :
    Calls Yba.prog 3 #[.slice (some a) n c] w fun e w' => e = .returned (.bool true) ∧ Below w.heap.size w w' := by
  have CB := build_some a b off n c K S N w hn ha hK hc
  have HB := hide CB
  clear CB ha hK hc
  have q24 : ∀ (w : World) (a : Option Addr) (n c n' c' : Nat), (binOp .eql 24 (.slice a n c) (.slice none n' c')).run Yba.prog w = .ok (.bool a.isNone) w := fun w a n c n' c' => Lib.run_eql_slice_nil w 24 9 a n c n' c' Yba.underlying24
  have h1024 : ¬ (1024 : Int) < (n : Int) := by omega
  go_enter Yba.func3, Yba.ntmps3
  go_wp2_with fail
  refine (unhide HB).mono ?_
  clear HB
  rintro e w1 ⟨xs, g, cap, rfl, hin, hdone, hwant, hb1⟩
  go_wp2_with fail
  have CM := members_any (some ⟨w.heap.size, 0, none⟩) w.heap.size 0 n n (fun i => xs.getD i .nilIface) (strAt K S) w1 hn (fun _ => rfl)
    (fun i hi => by
      obtain ⟨x, hx, _⟩ := hdone i hi
      rw [Nat.zero_add, hin.cellAt i (by omega), hx]; simp [List.getD, hx])
    (fun i hi => by
      obtain ⟨x, hx, hf⟩ := hdone i hi
      simpa [List.getD, hx] using hf)
  refine CM.mono ?_
  clear CM
  rintro e w2 ⟨rfl, hlist, hb2⟩
  have hs1 := hb1.size
  have hbw : Below w.heap.size w w2 := hb1.trans (hb2.mono hs1)
  have hlt1 := (hwant.lt g rfl).2
  have hwant2 : w2.ownsRow (w.heap.size + 1) 9 1 (.slice (some ⟨g, 0, none⟩) (strsTo (strAt K S) n).length cap) (strsTo (strAt K S) n).length ((strsTo (strAt K S) n).map Value.string) := own_below hwant hb2
  have c1 := strs_cell hwant2
  have c2 := strs_cell hlist
  have hle := strsTo_le (strAt K S) n
  clear hin hdone hwant hb1 hb2 hlist hwant2
  generalize strsTo (strAt K S) n = ss at *
  generalize allTo (strAt K S) n = al at *
  have H1 := hide c1
  have H2 := hide c2
  clear c1 c2
  go_wp2
  go_loopw [8] (fun i wr => ∃ k : Nat, k ≤ ss.length ∧ i = .int .i64 k ∧ Below w2.heap.size w2 wr) (fun i _ => ss.length - (intOf i).toNat)
  case atStart => exact ⟨0, Nat.zero_le _, rfl, Below.refl _ _⟩
  case round =>
    obtain ⟨k, hk, rfl, hbr⟩ := hrel
    by_cases hlt : k < ss.length
    · have d1 := cell_later hbr (unhide H1 k hlt)
      have d2 := cell_later hbr (unhide H2 k hlt)
      have hi1 : (k : Int) < (ss.length : Int) := by omega
      have hi0 : (0 : Int) ≤ (k : Int) := by omega
      generalize ss.getD k ByteArray.empty = s at *
      go_wp2
      go_quiet (fail)
      go_wp2
      go_roundw
      case rel => exact ⟨k + 1, by omega, by go_num, below_drewN hbr _⟩
      case measure => simp [intOf]; omega
    · have e : k = ss.length := by omega
      go_wp2
      go_ret
      exact ⟨rfl, hbw.trans (hbr.mono hbw.size)⟩

set_option maxHeartbeats 1000000 in
theorem filter_nil (w : World) : Calls Yba.prog 3 #[.slice none 0 0] w fun e w' => e = .returned (.bool true) ∧ Below w.heap.size w w' := by
  have q24 : ∀ (w : World) (a : Option Addr) (n c n' c' : Nat), (binOp .eql 24 (.slice a n c) (.slice none n' c')).run Yba.prog w = .ok (.bool a.isNone) w := fun w a n c n' c' => Lib.run_eql_slice_nil w 24 9 a n c n' c' Yba.underlying24
  go_enter Yba.func3, Yba.ntmps3
  go_wp2_with fail
  refine (build_nil _).mono ?_
  rintro e w1 ⟨rfl, hwant, hb1⟩
  go_wp2_with fail
  refine (members_any none 0 0 0 0 (fun _ => .nilIface) (fun _ => none) w1 (by omega) (by omega) (by omega) (by omega)).mono ?_
  rintro e w2 ⟨rfl, hlist, hb2⟩
  have hbw : Below w.heap.size w w2 := hb1.trans (hb2.mono hb1.size)
  rw [strsTo_zero, allTo_zero]
  clear hwant hb1 hlist hb2
  go_wp2
  refine wp_loop_rounds 1 ?_
  rw [rounds_succ]
  go_wp2
  go_ret
  exact ⟨rfl, hbw⟩
end Go.Proofs.Ybulkanjo.Flt
