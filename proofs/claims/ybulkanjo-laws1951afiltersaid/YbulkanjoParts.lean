/- Plain facts for the filter law: what is gathered of the first k members. No Go text in sight. -/
import Derived.WalkKit
import Derived.WalkSpells
namespace Go.Proofs.Ybulkanjo.Flt
open Go.RowKit

/-- The strings among the first k members ('T i': the i-th member's string, where it is one). -/
def strsTo (T : Nat → Option ByteArray) (k : Nat) : List ByteArray := (List.range k).filterMap T
/-- Is each of the first k members a string? -/
def allTo (T : Nat → Option ByteArray) (k : Nat) : Bool := (List.range k).all fun i => (T i).isSome

theorem strsTo_zero (T : Nat → Option ByteArray) : strsTo T 0 = [] := rfl
theorem allTo_zero (T : Nat → Option ByteArray) : allTo T 0 = true := rfl
theorem strsTo_some {T : Nat → Option ByteArray} {k : Nat} {s : ByteArray} (h : T k = some s) : strsTo T (k + 1) = strsTo T k ++ [s] := by
  simp [strsTo, List.range_succ, List.filterMap_append, h]
theorem strsTo_none {T : Nat → Option ByteArray} {k : Nat} (h : T k = none) : strsTo T (k + 1) = strsTo T k := by
  simp [strsTo, List.range_succ, List.filterMap_append, h]
theorem allTo_some {T : Nat → Option ByteArray} {k : Nat} {s : ByteArray} (h : T k = some s) : allTo T (k + 1) = allTo T k := by
  simp [allTo, List.range_succ, h]
theorem allTo_none {T : Nat → Option ByteArray} {k : Nat} (h : T k = none) : allTo T (k + 1) = false := by
  simp [allTo, List.range_succ, h]
theorem strsTo_le (T : Nat → Option ByteArray) (k : Nat) : (strsTo T k).length ≤ k := by
  have := List.length_filterMap_le T (List.range k)
  simpa [strsTo] using this

/-- What lies in a cell of the array of members: a string's interface value where 'T' says so, else one of another type, or nil. -/
def Fits (t : Option ByteArray) (v : Value) : Prop :=
  (∃ s, t = some s ∧ v = .iface 9 (.string s)) ∨ (t = none ∧ (v = .nilIface ∨ (∃ n, v = .iface 2 (.int .i64 n)) ∨ ∃ a n c, v = .iface 23 (.slice a n c)))

theorem hide {p : Prop} (h : p) : Hid p := h
theorem unhide {p : Prop} (h : Hid p) : p := h

/-- What was owned stays owned in a world that lies beyond. -/
theorem own_below {w w' : World} {B : Nat} {e : TypeId} {size : Nat} {v : Value} {n : Nat} {xs : List Value} (h : w.ownsRow B e size v n xs) (hb : Below w.heap.size w w') : w'.ownsRow B e size v n xs := by
  refine ⟨h.1, ?_⟩
  rcases h.2 with h2 | ⟨g, cap, cur, hv, hg, hh, r⟩
  · exact .inl h2
  · exact .inr ⟨g, cap, cur, hv, hg, by rw [hb.block g (lt_of_block hh)]; exact hh, r⟩

/-- One more string in an owned row. -/
theorem own_snoc {w : World} {B : Nat} {v : Value} {T : Nat → Option ByteArray} {k : Nat} {s : ByteArray} (h : T k = some s)
    (ho : w.ownsRow B 9 1 v ((strsTo T k).length + 1) ((strsTo T k).map Value.string ++ [.string s])) :
    w.ownsRow B 9 1 v (strsTo T (k + 1)).length ((strsTo T (k + 1)).map Value.string) := by
  rw [strsTo_some h]
  simpa using ho
end Go.Proofs.Ybulkanjo.Flt
