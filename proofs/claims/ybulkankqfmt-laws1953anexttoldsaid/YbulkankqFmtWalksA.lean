/- Contracts of (*stream).taken, counted, errors.New, fmt.Errorf, (*Decoder).Failf. -/
import Derived.Test.YbulkankqFmtRows
import Derived.WalkKit
import Derived.WalkSpells
import Derived.WalkSmall
import Derived.Deep.QuietTactic
import Derived.BigQuiet
import Derived.Stop.CallBack
import Derived.Stop.IfaceNil
namespace Go.Proofs.YbulkankqFmt.Nx
open Go.RowKit Go.Extern.Stop Go.Stop Go.Extern

theorem hide {p : Prop} (h : p) : Hid p := h
theorem unhide {p : Prop} (h : Hid p) : p := h

/-- What is counted: wrapping as Go's uint64 does, in the walk's own spelling. -/
def takenOf (read start : Int) (n : Nat) : Int := IntKind.u64.wrap (IntKind.u64.wrap (read - (n : Int)) - start)
def countedOf (read start held : Int) (n : Nat) : Int := IntKind.u64.wrap (takenOf read start n + held)

set_option maxHeartbeats 400000 in
theorem taken_any (bs bd : Nat) (read start : Int) (a : Option Addr) (n c : Nat) (w : World) (hn : n ≤ 16384) (h3 : w.cell? ⟨bs, 3, none⟩ = some (.int .u64 read)) (h4 : w.cell? ⟨bs, 4, none⟩ = some (.int .u64 start))
    (hd : w.cell? ⟨bd, 0, none⟩ = some (.slice a n c)) :
    Calls Ybaf.prog 8 #[.pointer (some ⟨bs, 0, none⟩), .pointer (some ⟨bd, 0, none⟩)] w fun e w' => e = .returned (.int .u64 (takenOf read start n)) ∧ ∃ k, w' = w.drewN k := by
  go_enter Ybaf.func8, Ybaf.ntmps8
  go_wp2
  go_quiet (fail)
  go_wp2
  go_ret
  exact ⟨rfl, _, rfl⟩

set_option maxHeartbeats 400000 in
theorem counted_any (bs bd : Nat) (read start held : Int) (a : Option Addr) (n c : Nat) (w : World) (hn : n ≤ 16384) (h3 : w.cell? ⟨bs, 3, none⟩ = some (.int .u64 read)) (h4 : w.cell? ⟨bs, 4, none⟩ = some (.int .u64 start))
    (h5 : w.cell? ⟨bs, 5, none⟩ = some (.int .u64 held)) (hd : w.cell? ⟨bd, 0, none⟩ = some (.slice a n c)) :
    Calls Ybaf.prog 6 #[.pointer (some ⟨bs, 0, none⟩), .pointer (some ⟨bd, 0, none⟩)] w fun e w' => e = .returned (.int .u64 (countedOf read start held n)) ∧ ∃ k, w' = w.drewN k := by
  go_enter Ybaf.func6, Ybaf.ntmps6
  go_wp2
  go_quiet ((go_at_call 8; exact Calls.quiet_of (taken_any bs bd read start a n c _ hn (by simpa using h3) (by simpa using h4) (by simpa using hd))))
  go_wp2
  go_ret
  exact ⟨rfl, _, rfl⟩

theorem new_any (s : ByteArray) (w : World) : Calls Ybaf.prog 4 #[.string s] w fun e w' => e = .returned (.iface 38 (.pointer (some ⟨w.heap.size, 0, none⟩))) ∧ w' = w.alloc (.cells #[.string s] 40) := by
  go_enter Ybaf.func4, Ybaf.ntmps4
  go_wp2
  go_ret
  exact ⟨rfl, rfl⟩

/-- The one format of this program that is printed. -/
def fmtS : ByteArray := { data := #[37, 100, 32, 98, 121, 116, 101, 115, 44, 32, 99, 111, 117, 110, 116, 105, 110, 103, 32, 37, 100, 32, 116, 104, 97, 116, 32, 105, 116, 115, 32, 108, 105, 115, 116, 115, 32, 104, 111, 108, 100, 32, 105, 110, 32, 109, 101, 109, 111, 114, 121, 44, 32, 112, 97, 115, 116, 32, 116, 104, 101, 32, 108, 105, 109, 105, 116, 32, 111, 102, 32, 37, 100] }

theorem call10 (args : Array Value) (w : World) : (callFunc 10 args).run Ybaf.prog w = ((FmtStop.errorf #[9, 43] #[26] args).run Ybaf.prog w).andThen fun v w' => .ok (.value v) w' :=
  run_callFunc_extern Ybaf.func10 (by kernel_rfl) (by kernel_rfl) (by kernel_rfl) (by kernel_rfl) args w
theorem guard_ok (name : String) (w : World) : (FmtStop.guard name).run Ybaf.prog w = .ok () w := by kernel_rfl
theorem printed_ok (w : World) : (FmtDoors.printed fmtS 3).run Ybaf.prog w = .ok [(0, 100, false), (1, 100, false), (2, 100, false)] w := by kernel_rfl
def shape22 : List UInt8 := [9, 6, 0, 0, 0, 0, 0, 0, 0, 117, 105, 110, 116, 54, 52]
theorem op22 (name : String) (x : Int) (w : World) : (FmtStop.operand name true 100 false (.iface 22 (.int .u64 x))).run Ybaf.prog w = .ok (shape22, Go.Extern.Stop.digits 8 (x % 2 ^ 64).toNat) w := by kernel_rfl
theorem ptr38 (w : World) : (FmtStop.ptrTo "errors.errorString").run Ybaf.prog w = .ok 38 w := by kernel_rfl
theorem elem38 (w : World) : (elemOf 38).run Ybaf.prog w = .ok 40 w := by kernel_rfl

set_option maxHeartbeats 1000000 in
theorem errorf_any (F : Interp) (bv : Nat) (x y z : Int) (w : World) (hF : F.answers w.tape) (c0 : w.cell? ⟨bv, 0, none⟩ = some (.iface 22 (.int .u64 x))) (c1 : w.cell? ⟨bv, 1, none⟩ = some (.iface 22 (.int .u64 y))) (c2 : w.cell? ⟨bv, 2, none⟩ = some (.iface 22 (.int .u64 z))) :
    Calls Ybaf.prog 9 #[.string fmtS, .slice (some ⟨bv, 0, none⟩) 3 3] w fun e w' => ∃ u, e = .returned (.iface 38 u) ∧ Below w.heap.size w w' := by
  have hF' := answers_open hF
  have k1 := call10
  have k2 := guard_ok
  have k3 := printed_ok
  have k4 := op22
  have k5 := ptr38
  have k6 := elem38
  go_enter Ybaf.func9, Ybaf.ntmps9
  go_wp2
  go_ret
  exact ⟨_, rfl, ((Below.refl _ _).alloc (Nat.le_refl _) _).drew⟩

set_option maxHeartbeats 400000 in
theorem failf_keep (bd : Nat) (s : ByteArray) (sl v : Value) (t : TypeId) (w : World) (h1 : w.cell? ⟨bd, 1, none⟩ = some (.iface t v)) :
    Calls Ybaf.prog 7 #[.pointer (some ⟨bd, 0, none⟩), .string s, sl] w fun e w' => e = .returned (.tuple #[]) ∧ w' = w := by
  go_enter Ybaf.func7, Ybaf.ntmps7
  go_wp2
  go_end0
  exact ⟨rfl, rfl⟩

set_option maxHeartbeats 400000 in
theorem failf_new (F : Interp) (bd bv : Nat) (x y z : Int) (w : World) (hF : F.answers w.tape) (c0 : w.cell? ⟨bv, 0, none⟩ = some (.iface 22 (.int .u64 x))) (c1 : w.cell? ⟨bv, 1, none⟩ = some (.iface 22 (.int .u64 y))) (c2 : w.cell? ⟨bv, 2, none⟩ = some (.iface 22 (.int .u64 z)))
    (h1 : w.cell? ⟨bd, 1, none⟩ = some .nilIface) (hf : w.frozen? ⟨bd, 1, none⟩ = false) :
    Calls Ybaf.prog 7 #[.pointer (some ⟨bd, 0, none⟩), .string fmtS, .slice (some ⟨bv, 0, none⟩) 3 3] w fun e w' => e = .returned (.tuple #[]) ∧ ∃ u w1, Below w.heap.size w w1 ∧ w' = w1.setCell ⟨bd, 1, none⟩ (.iface 38 u) := by
  go_enter Ybaf.func7, Ybaf.ntmps7
  go_wp2_with fail
  refine (errorf_any F bv x y z w hF c0 c1 c2).mono ?_
  rintro e w1 ⟨u, rfl, hb⟩
  have h2 := cell_later hb h1
  have hf2 : w1.frozen? ⟨bd, 1, none⟩ = false := (hb.frozen (p := ⟨bd, 1, none⟩) (World.block_lt_of_cell? _ _ h1)).trans hf
  have HB := hide hb
  clear hb h1 hf c0 c1 c2 hF
  go_wp2
  go_end0
  exact ⟨rfl, u, w1, unhide HB, rfl⟩
end Go.Proofs.YbulkankqFmt.Nx
