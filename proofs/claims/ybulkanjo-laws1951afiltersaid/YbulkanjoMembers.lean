/- The contract of 'stringMembers' (function 6). -/
import Derived.Test.YbulkanjoRows
import Derived.Test.YbulkanjoParts
import Derived.Deep.QuietTactic
import Derived.BigQuiet
namespace Go.Proofs.Ybulkanjo.Flt
open Go.RowKit
theorem info20 : (Yba.prog.info? 20).map (fun i => (i.zero, i.size, i.bytes)) = some (some .nilIface, 1, 16) := by kernel_rfl
theorem info9 : (Yba.prog.info? 9).map (fun i => (i.zero, i.size, i.bytes)) = some (some (.string ByteArray.empty), 1, 16) := by kernel_rfl
theorem ta_str (s : ByteArray) (w : World) : (Instr.typeAssert (.iface 9 (.string s)) 20 9 true).run Yba.prog w = .ok (.tuple #[.string s, .bool true]) w := by kernel_rfl
theorem ta_nil (w : World) : (Instr.typeAssert .nilIface 20 9 true).run Yba.prog w = .ok (.tuple #[.string ByteArray.empty, .bool false]) w := by kernel_rfl
theorem ta_int (n : Int) (w : World) : (Instr.typeAssert (.iface 2 (.int .i64 n)) 20 9 true).run Yba.prog w = .ok (.tuple #[.string ByteArray.empty, .bool false]) w := by kernel_rfl
theorem ta_sl (a : Option Addr) (n c : Nat) (w : World) : (Instr.typeAssert (.iface 23 (.slice a n c)) 20 9 true).run Yba.prog w = .ok (.tuple #[.string ByteArray.empty, .bool false]) w := by kernel_rfl

set_option maxHeartbeats 1000000 in
theorem members_any (ao : Option Addr) (b off n c : Nat) (X : Nat → Value) (T : Nat → Option ByteArray) (w : World) (hn : n ≤ 1024) (ha : 0 < n → ao = some ⟨b, off, none⟩)
    (hc : ∀ i, i < n → w.cell? ⟨b, off + i, none⟩ = some (X i)) (hf : ∀ i, i < n → Fits (T i) (X i)) :
    Calls Yba.prog 6 #[.slice ao n c] w fun e w' => e = .returned (.tuple #[.slice (some ⟨w.heap.size, 0, none⟩) (strsTo T n).length n, .bool (allTo T n)]) ∧
      w'.ownsRow w.heap.size 9 1 (.slice (some ⟨w.heap.size, 0, none⟩) (strsTo T n).length n) (strsTo T n).length ((strsTo T n).map Value.string) ∧ Below w.heap.size w w' := by
  obtain ⟨i0, hi, hz0, hz1, hz2⟩ := info_parts info9
  have HC : Hid (∀ i, i < n → w.cell? ⟨b, off + i, none⟩ = some (X i)) := hc
  have HF : Hid (∀ i, i < n → Fits (T i) (X i)) := hf
  have HA : Hid (0 < n → ao = some ⟨b, off, none⟩) := ha
  clear hc hf ha
  go_enter Yba.func6, Yba.ntmps6
  go_wp2_with (at_make; refine wpList_make_own _ rfl _ _ 24 rfl w.heap.size 9 i0 (.string ByteArray.empty) 1 Yba.underlying24 hi hz0 hz1 _ _ _ n rfl rfl rfl ?b1 ?b2 ?b3 ?_)
  case b1 => rw [hz2]; omega
  case b2 => unfold maxLen; omega
  case b3 => exact Nat.le_refl _
  intro w1 hown hgrow
  have hb1 : Below w.heap.size w w1 := (Below.refl _ _).grown hgrow (Nat.le_refl _) (fun k h => by simp at h)
  clear hgrow
  go_wp2
  go_loopw [2, 3, 13] (fun v a i wr => ∃ k : Nat, k ≤ n ∧ i = .int .i64 k ∧ v = .slice (some ⟨w.heap.size, 0, none⟩) (strsTo T k).length n ∧ a = .bool (allTo T k) ∧
      wr.ownsRow w.heap.size 9 1 (.slice (some ⟨w.heap.size, 0, none⟩) (strsTo T k).length n) (strsTo T k).length ((strsTo T k).map Value.string) ∧ Below w.heap.size w wr)
    (fun _ _ i _ => n - (intOf i).toNat)
  case atStart => exact ⟨0, Nat.zero_le _, rfl, rfl, rfl, hown, hb1⟩
  case round =>
    obtain ⟨k, hk, rfl, rfl, rfl, hown, hbel⟩ := hrel
    have hle := strsTo_le T k
    by_cases hlt : k < n
    · obtain rfl := HA.out (by omega)
      clear HA
      have hcell := cell_later hbel (HC.out k hlt)
      rcases HF.out k hlt with ⟨s, hT, hX⟩ | ⟨hT, hX⟩
      · have E1 : Hid (allTo T (k + 1) = allTo T k) := allTo_some hT
        have E2 := strsTo_some hT
        have e3 : (strsTo T (k + 1)).length = (strsTo T k).length + 1 := by rw [E2]; simp
        have E3 : Hid ((strsTo T (k + 1)).length = (strsTo T k).length + 1) := e3
        have ta := ta_str s
        have HT : Hid (T k = some s) := hT
        clear E2 e3 hT
        rw [hX] at hcell
        clear hX
        go_wp2_with (at_builtin; refine wpList_append_fits _ rfl _ _ 24 rfl w.heap.size 9 i0 1 Yba.underlying24 hi hz1 w.heap.size _ n _ rfl (hown.alloc _) ⟨wr.heap.size, 0, none⟩ 1 1 [.string s] rfl rfl (by exact cell_one_new _ _ _) (by intro u hu; simp at hu; subst hu; rfl) (by omega) ?_)
        intro w2 hown2 hgrow2
        have hb2 : Below w.heap.size w w2 := (hbel.alloc hbel.size _).grown hgrow2 (by have := hbel.size; simp; omega) (fun j hj => by simp at hj; omega)
        have R := own_snoc HT.out hown2
        clear hown2 hgrow2 hown hbel hcell
        go_wp2
        go_roundw
        case rel => exact ⟨k + 1, by omega, by go_num, by rw [E3.out], by rw [E1.out], by rw [E3.out] at R ⊢; exact R, hb2⟩
        case measure => simp [intOf]; omega
      · have E1 : Hid (allTo T (k + 1) = false) := allTo_none hT
        have E2 : Hid (strsTo T (k + 1) = strsTo T k) := strsTo_none hT
        clear hT
        rcases hX with hX | ⟨m, hX⟩ | ⟨ay, ny, cy, hX⟩
        all_goals
          rw [hX] at hcell
          clear hX
          have t1 := ta_nil
          have t2 := ta_int
          have t3 := ta_sl
          go_wp2
          go_roundw
          case rel => exact ⟨k + 1, by omega, by go_num, by rw [E2.out], by rw [E1.out], by rw [E2.out]; exact hown, hbel⟩
          case measure => simp [intOf]; omega
    · have e : k = n := by omega
      subst e
      go_wp2
      go_ret2
      exact ⟨rfl, hown, hbel⟩
end Go.Proofs.Ybulkanjo.Flt
