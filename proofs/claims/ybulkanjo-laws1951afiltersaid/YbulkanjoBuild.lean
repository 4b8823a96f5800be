/- The contract of 'zzs1951abuild' (function 5). -/
import Derived.Test.YbulkanjoMembers
namespace Go.Proofs.Ybulkanjo.Flt
open Go.RowKit

/-- The string of the i-th member, where its kind says that it is one. -/
def strAt (K : Nat → Int) (S : Nat → ByteArray) (i : Nat) : Option ByteArray := if K i % 4 = 0 then some (S i) else none

/-- Of the first k cells each holds what its kind says. -/
def Done (T : Nat → Option ByteArray) (k : Nat) (xs : List Value) : Prop := ∀ i, i < k → ∃ x, xs[i]? = some x ∧ Fits (T i) x

theorem Done.step {T : Nat → Option ByteArray} {k n : Nat} {xs : List Value} {v : Value} (h : Done T k xs) (hl : xs.length = n) (hk : k < n) (hv : Fits (T k) v) : Done T (k + 1) (xs.set k v) := by
  intro i hi
  by_cases e : i = k
  · subst e
    exact ⟨v, by simp [hl, hk], hv⟩
  · obtain ⟨x, hx, hf⟩ := h i (by omega)
    exact ⟨x, by rw [List.getElem?_set_ne (by omega)]; exact hx, hf⟩

theorem shape {w : World} {B : Nat} {e : TypeId} {size : Nat} {v : Value} {n : Nat} {xs : List Value} (h : w.ownsRow B e size v n xs) (hne : v ≠ .slice none 0 0) : ∃ g cap, v = .slice (some ⟨g, 0, none⟩) n cap := by
  rcases h.2 with ⟨h1, _⟩ | ⟨g, cap, _, h1, _⟩
  · exact absurd h1 hne
  · exact ⟨g, cap, h1⟩

theorem cell_new_set (w : World) (a : Addr) (v s : Value) (e : TypeId) : ∀ j u, [s][j]? = some u → ((w.setCell a v).alloc (.cells #[s] e)).cell? ((⟨w.heap.size, 0, none⟩ : Addr).add j) = some u := by
  have h : w.heap.size = (w.setCell a v).heap.size := by simp [World.setCell]
  rw [h]
  exact cell_one_new _ _ _

/-- A round that stores u and appends the string s. -/
theorem step_str {w wr w2 : World} {T : Nat → Option ByteArray} {k n g : Nat} {xs : List Value} {v : Value} {s : ByteArray} (hT : T k = some s) (hk : k < n)
    (hin : wr.ownsRow w.heap.size 20 1 (.slice (some ⟨w.heap.size, 0, none⟩) n n) n xs) (hdone : Done T k xs) (hgB : w.heap.size + 1 ≤ g) (hbel : Below w.heap.size w wr)
    (hown2 : w2.ownsRow (w.heap.size + 1) 9 1 v ((strsTo T k).length + 1) ((strsTo T k).map Value.string ++ [.string s]))
    (hgrow2 : ((wr.setCell ⟨w.heap.size, k, none⟩ (.iface 9 (.string s))).alloc (.cells #[.string s] 9)).grownBy w2 (some g)) (hne : v ≠ .slice none 0 0) :
    ∃ g' cap', v = .slice (some ⟨g', 0, none⟩) (strsTo T (k + 1)).length cap' ∧ w2.ownsRow w.heap.size 20 1 (.slice (some ⟨w.heap.size, 0, none⟩) n n) n (xs.set k (.iface 9 (.string s))) ∧ Done T (k + 1) (xs.set k (.iface 9 (.string s))) ∧
      w2.ownsRow (w.heap.size + 1) 9 1 (.slice (some ⟨g', 0, none⟩) (strsTo T (k + 1)).length cap') (strsTo T (k + 1)).length ((strsTo T (k + 1)).map Value.string) ∧ Below w.heap.size w w2 := by
  have R := own_snoc hT hown2
  obtain ⟨g', cap', rfl⟩ := shape R hne
  have hbs : w.heap.size < wr.heap.size := (hin.lt w.heap.size rfl).2
  refine ⟨g', cap', rfl, ((hin.stored k _).1.alloc _).kept hgrow2 (.inr (by simp [Value.ownBlock]; omega)), hdone.step (by simpa using hin.1) hk (.inl ⟨s, hT, rfl⟩), R, ?_⟩
  refine ((hbel.setCell (p := ⟨w.heap.size, k, none⟩) (Nat.le_refl _) _).alloc (by simp; omega) _).grown hgrow2 (by simp; omega) (fun j hj => by simp at hj; omega)

/-- A round that stores a value that is no string. -/
theorem step_other {w wr : World} {T : Nat → Option ByteArray} {k n g cap : Nat} {xs : List Value} {u : Value} (hT : T k = none) (hk : k < n) (hu : u = .nilIface ∨ (∃ n, u = .iface 2 (.int .i64 n)) ∨ ∃ a n c, u = .iface 23 (.slice a n c))
    (hin : wr.ownsRow w.heap.size 20 1 (.slice (some ⟨w.heap.size, 0, none⟩) n n) n xs) (hdone : Done T k xs) (hbel : Below w.heap.size w wr)
    (hwant : wr.ownsRow (w.heap.size + 1) 9 1 (.slice (some ⟨g, 0, none⟩) (strsTo T k).length cap) (strsTo T k).length ((strsTo T k).map Value.string)) :
    (wr.setCell ⟨w.heap.size, k, none⟩ u).ownsRow w.heap.size 20 1 (.slice (some ⟨w.heap.size, 0, none⟩) n n) n (xs.set k u) ∧ Done T (k + 1) (xs.set k u) ∧
      (wr.setCell ⟨w.heap.size, k, none⟩ u).ownsRow (w.heap.size + 1) 9 1 (.slice (some ⟨g, 0, none⟩) (strsTo T (k + 1)).length cap) (strsTo T (k + 1)).length ((strsTo T (k + 1)).map Value.string) ∧ Below w.heap.size w (wr.setCell ⟨w.heap.size, k, none⟩ u) := by
  rw [strsTo_none hT]
  exact ⟨(hin.stored k u).1, hdone.step (by simpa using hin.1) hk (.inr ⟨hT, hu⟩), ownsRow_setCell_below hwant (by simp) u, hbel.setCell (Nat.le_refl _) u⟩

set_option maxHeartbeats 1000000 in
theorem build_nil (w : World) : Calls Yba.prog 5 #[.slice none 0 0] w fun e w' => e = .returned (.tuple #[.slice none 0 0, .slice (some ⟨w.heap.size, 0, none⟩) 0 0, .bool true]) ∧
    w'.ownsRow w.heap.size 9 1 (.slice (some ⟨w.heap.size, 0, none⟩) 0 0) 0 [] ∧ Below w.heap.size w w' := by
  have q22 : ∀ (w : World) (a : Option Addr) (n c n' c' : Nat), (binOp .eql 22 (.slice a n c) (.slice none n' c')).run Yba.prog w = .ok (.bool a.isNone) w := fun w a n c n' c' => Lib.run_eql_slice_nil w 22 32 a n c n' c' Yba.underlying22
  go_enter Yba.func5, Yba.ntmps5
  go_wp2
  go_ret3
  exact ⟨rfl, World.ownsRow_made _ _ 0 (Nat.le_refl _) (by unfold maxLen; omega) rfl, (Below.refl _ _).alloc (Nat.le_refl _) _⟩

set_option maxHeartbeats 1000000 in
theorem build_some (a : Addr) (b off n c : Nat) (K : Nat → Int) (S : Nat → ByteArray) (N : Nat → Int) (w : World) (hn : n ≤ 1024) (ha : 0 < n → a = ⟨b, off, none⟩)
    (hK : ∀ i, 0 ≤ K i ∧ K i ≤ 255)
    (hc : ∀ i, i < n → w.cell? ⟨b, off + i * 3, none⟩ = some (.int .u8 (K i)) ∧ w.cell? ⟨b, off + i * 3 + 1, none⟩ = some (.string (S i)) ∧ w.cell? ⟨b, off + i * 3 + 2, none⟩ = some (.int .i64 (N i))) :
    Calls Yba.prog 5 #[.slice (some a) n c] w fun e w' => ∃ xs g cap, e = .returned (.tuple #[.slice (some ⟨w.heap.size, 0, none⟩) n n, .slice (some ⟨g, 0, none⟩) (strsTo (strAt K S) n).length cap, .bool (allTo (strAt K S) n)]) ∧
      w'.ownsRow w.heap.size 20 1 (.slice (some ⟨w.heap.size, 0, none⟩) n n) n xs ∧ Done (strAt K S) n xs ∧
      w'.ownsRow (w.heap.size + 1) 9 1 (.slice (some ⟨g, 0, none⟩) (strsTo (strAt K S) n).length cap) (strsTo (strAt K S) n).length ((strsTo (strAt K S) n).map Value.string) ∧ Below w.heap.size w w' := by
  obtain ⟨i0, hi, hz0, hz1, hz2⟩ := info_parts info9
  obtain ⟨i1, gi, gz0, gz1, gz2⟩ := info_parts info20
  have HC : Hid (∀ i, i < n → w.cell? ⟨b, off + i * 3, none⟩ = some (.int .u8 (K i)) ∧ w.cell? ⟨b, off + i * 3 + 1, none⟩ = some (.string (S i)) ∧ w.cell? ⟨b, off + i * 3 + 2, none⟩ = some (.int .i64 (N i))) := hc
  have HA : Hid (0 < n → a = ⟨b, off, none⟩) := ha
  have HK : Hid (∀ i, 0 ≤ K i ∧ K i ≤ 255) := hK
  clear hc ha hK
  have q22 : ∀ (w : World) (a : Option Addr) (n c n' c' : Nat), (binOp .eql 22 (.slice a n c) (.slice none n' c')).run Yba.prog w = .ok (.bool a.isNone) w := fun w a n c n' c' => Lib.run_eql_slice_nil w 22 32 a n c n' c' Yba.underlying22
  go_enter Yba.func5, Yba.ntmps5
  go_wp2_with (at_make; refine wpList_make_full _ rfl _ _ 23 rfl w.heap.size 20 i1 .nilIface 1 Yba.underlying23 gi gz0 gz1 _ _ _ _ n rfl rfl rfl rfl (by rw [gz2]; omega) (by unfold maxLen; omega) (Nat.le_refl _) ?_)
  intro w1 hown hgrow
  have hb1 : Below w.heap.size w w1 := (Below.refl _ _).grown hgrow (Nat.le_refl _) (fun k h => by simp at h)
  have hs1 : w.heap.size < w1.heap.size := (hown.lt _ rfl).2
  clear hgrow
  go_wp2
  go_loopw [6, 7, 8] (fun v al i wr => ∃ (k : Nat) (xs : List Value) (g cap : Nat), k ≤ n ∧ i = .int .i64 k ∧ v = .slice (some ⟨g, 0, none⟩) (strsTo (strAt K S) k).length cap ∧ al = .bool (allTo (strAt K S) k) ∧
      wr.ownsRow w.heap.size 20 1 (.slice (some ⟨w.heap.size, 0, none⟩) n n) n xs ∧ Done (strAt K S) k xs ∧
      wr.ownsRow (w.heap.size + 1) 9 1 (.slice (some ⟨g, 0, none⟩) (strsTo (strAt K S) k).length cap) (strsTo (strAt K S) k).length ((strsTo (strAt K S) k).map Value.string) ∧ Below w.heap.size w wr)
    (fun _ _ i _ => n - (intOf i).toNat)
  case atStart => exact ⟨0, _, w1.heap.size, 0, Nat.zero_le _, rfl, rfl, rfl, hown.alloc _, fun i hi => absurd hi (Nat.not_lt_zero _), World.ownsRow_made _ _ 0 (by omega) (by unfold maxLen; omega) rfl, hb1.alloc (by omega) _⟩
  case round =>
    clear hown hb1 hs1
    obtain ⟨k, xs, g, cap, hk, rfl, rfl, rfl, hin, hdone, hwant, hbel⟩ := hrel
    have hle := strsTo_le (strAt K S) k
    have hxl : xs.length = n := by simpa using hin.1
    have hsz := (hwant.lt g rfl).2
    have hgB := (hwant.lt g rfl).1
    have hbs := (hin.lt _ rfl).2
    by_cases hlt : k < n
    · obtain rfl := HA.out (by omega)
      clear HA
      obtain ⟨c0, c1, c2⟩ := HC.out k hlt
      have hc0 := cell_later hbel c0
      have hc1 := cell_later hbel c1
      have hc2 := cell_later hbel c2
      obtain ⟨x, hx, _⟩ : ∃ x, xs[k]? = some x ∧ True := ⟨xs[k], by simp [hxl, hlt], trivial⟩
      have hic : wr.cell? ⟨w.heap.size, k, none⟩ = some x := (hin.cellAt k (by omega)).trans hx
      have hfr := hin.frozenAt k
      obtain ⟨hk0, hk1⟩ := HK.out k
      clear c0 c1 c2 hx
      rcases (show K k % 4 = 0 ∨ K k % 4 = 1 ∨ K k % 4 = 2 ∨ K k % 4 = 3 by omega) with hm | hm | hm | hm
      · have hT : strAt K S k = some (S k) := by simp [strAt, hm]
        have HT : Hid (strAt K S k = some (S k)) := hT
        have E1 : Hid (allTo (strAt K S) (k + 1) = allTo (strAt K S) k) := allTo_some hT
        clear hT
        have HW := ownsRow_setCell_below (a := ⟨w.heap.size, k, none⟩) hwant (by simp) (.iface 9 (.string (S k)))
        go_wp2_with (at_builtin; refine wpList_append_own _ rfl _ _ 24 rfl (w.heap.size + 1) 9 i0 (.string ByteArray.empty) 1 16 Yba.underlying24 hi hz0 hz1 hz2 rfl (by decide) _ _ _ rfl (HW.alloc _) ⟨wr.heap.size, 0, none⟩ 1 1 [.string (S k)] rfl rfl (by exact cell_new_set _ _ _ _ _) (by intro u hu; simp at hu; subst hu; rfl) (by unfold maxLen; omega) (by omega) (by simp; omega) ?_)
        intro v' w2 hown2 hgrow2 hne
        obtain ⟨g', cap', rfl, R1, R2, R3, R4⟩ := step_str HT.out hlt hin hdone hgB hbel hown2 hgrow2 hne
        clear hown2 hgrow2 hne hin hdone hwant hbel HW hic hfr hc0 hc1 hc2
        go_wp2
        go_roundw
        case rel => exact ⟨k + 1, _, g', cap', by omega, by go_num, rfl, by rw [E1.out], R1, R2, R3, R4⟩
        case measure => simp [intOf]; omega
      · have hT : strAt K S k = none := by simp [strAt, hm]
        have HT : Hid (strAt K S k = none) := hT
        have E1 : Hid (allTo (strAt K S) (k + 1) = false) := allTo_none hT
        clear hT
        go_wp2
        have R := step_other (u := .iface 2 (.int .i64 (N k))) HT.out hlt (.inr (.inl ⟨_, rfl⟩)) hin hdone hbel hwant
        go_roundw
        case rel => exact ⟨k + 1, _, g, cap, by omega, by go_num, by rw [strsTo_none HT.out], by rw [E1.out], R.1, R.2.1, R.2.2.1, R.2.2.2⟩
        case measure => simp [intOf]; omega
      · have hT : strAt K S k = none := by simp [strAt, hm]
        have HT : Hid (strAt K S k = none) := hT
        have E1 : Hid (allTo (strAt K S) (k + 1) = false) := allTo_none hT
        clear hT
        go_wp2
        have R := step_other (u := .nilIface) HT.out hlt (.inl rfl) hin hdone hbel hwant
        go_roundw
        case rel => exact ⟨k + 1, _, g, cap, by omega, by go_num, by rw [strsTo_none HT.out], by rw [E1.out], R.1, R.2.1, R.2.2.1, R.2.2.2⟩
        case measure => simp [intOf]; omega
      · have hT : strAt K S k = none := by simp [strAt, hm]
        have HT : Hid (strAt K S k = none) := hT
        have E1 : Hid (allTo (strAt K S) (k + 1) = false) := allTo_none hT
        clear hT
        go_wp2
        have R := step_other (u := .iface 23 (.slice (some ⟨wr.heap.size, 0, none⟩) 1 1)) HT.out hlt (.inr (.inr ⟨_, _, _, rfl⟩)) hin hdone hbel hwant
        go_roundw
        case rel => exact ⟨k + 1, _, g, cap, by omega, by go_num, by rw [strsTo_none HT.out], by rw [E1.out], R.1.alloc _, R.2.1, R.2.2.1.alloc _, R.2.2.2.alloc (by simp; omega) _⟩
        case measure => simp [intOf]; omega
    · have e : k = n := by omega
      subst e
      go_wp2
      go_ret3
      exact ⟨xs, g, cap, rfl, hin, hdone, hwant, hbel⟩
end Go.Proofs.Ybulkanjo.Flt
