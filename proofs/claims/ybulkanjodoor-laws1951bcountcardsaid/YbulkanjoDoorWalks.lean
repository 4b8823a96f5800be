/- Contracts of strconv.Itoa (off the shelf), errors.New, (*decoder).errorAt, enter, leave. -/
import Derived.Test.YbulkanjoDoorRows
import Derived.Test.YbulkanjoDoorShelf
import Derived.WalkKit
import Derived.WalkSpells
import Derived.WalkSmall
import Derived.Deep.QuietTactic
import Derived.BigQuiet
import Derived.Lib.LaidTab
import Derived.Lib.ItoaLen
import Derived.Lib.AppendIntMem
import Derived.ShutString
namespace Go.Proofs.YbulkanjoDoor.Dw
open Go.RowKit

theorem hide {p : Prop} (h : p) : Hid p := h
theorem unhide {p : Prop} (h : Hid p) : p := h

/-- The name of the table of powers of ten, off the row's own list. -/
def tabName : String := Rows.lawS1951BCountRow.named.headD ""

/-- The table of powers of ten reads as the row lists it. -/
def Tab (w : World) : Prop := Lib.TabIs Ybad.prog w tabName .u64 Lib.pow10Tab

theorem gTab : Ybad.prog.globalNamed tabName = some 0 := by kernel_rfl

theorem Tab.on {B : Nat} {w w' : World} (h : Tab w) (hb : Below B w w') (hB : 0 < B) : Tab w' := var?_below hb gTab hB h

/-- An int64's bounds. -/
def I64 (n : Int) : Prop := -9223372036854775808 ≤ n ∧ n ≤ 9223372036854775807

theorem mk_size (l : Array UInt8) : ({ data := l } : ByteArray).size = l.size := rfl

theorem itoa_any (n : Int) (w : World) (hn : I64 n) (ht : Tab w) : Calls Ybad.prog 12 #[.int .i64 n] w fun e w' => ∃ s : ByteArray, e = .returned (.string s) ∧ s.size ≤ 21 ∧ Below w.heap.size w w' := by
  refine (Any.strconv_Itoa Ybad.laysM171 n hn.1 hn.2 w ht).mono ?_
  rintro e w' ⟨rfl, k, os, rfl⟩
  exact ⟨_, rfl, by rw [size_of_list]; exact Lib.itoa_length_le n hn.1 hn.2, Lib.below_grow _ _ (Nat.le_refl _) _ _⟩

theorem new_any (s : ByteArray) (w : World) : Calls Ybad.prog 13 #[.string s] w fun e w' => ∃ v, e = .returned (.iface 36 v) ∧ Below w.heap.size w w' := by
  go_enter Ybad.func13, Ybad.ntmps13
  go_wp2
  go_ret
  exact ⟨_, rfl, (Below.refl _ _).alloc (Nat.le_refl _) _⟩

set_option maxHeartbeats 400000 in
theorem errorAt_any (b : Nat) (pos : Int) (what : ByteArray) (w : World) (hw : what.size ≤ 4096) (hc : w.cell? ⟨b, 1, none⟩ = some (.int .i64 pos)) (hp : I64 pos) (ht : Tab w) :
    Calls Ybad.prog 11 #[.pointer (some ⟨b, 0, none⟩), .string what] w fun e w' => ∃ v, e = .returned (.iface 36 v) ∧ Below w.heap.size w w' := by
  go_enter Ybad.func11, Ybad.ntmps11
  go_wp2_with fail
  refine (itoa_any pos w hp ht).mono ?_
  rintro e w1 ⟨s, rfl, hs, hb⟩
  clear hc ht
  have h1 : (what ++ { data := #[32, 97, 116, 32, 98, 121, 116, 101, 32] } : ByteArray).size ≤ 5000 := by
    have h9 : ({ data := #[32, 97, 116, 32, 98, 121, 116, 101, 32] } : ByteArray).size = 9 := rfl
    rw [ByteArray.size_append, h9]; omega
  go_wp2_with fail
  refine (new_any _ _).mono ?_
  rintro e w2 ⟨v, rfl, hb2⟩
  go_wp2
  go_ret
  exact ⟨_, rfl, hb.trans (hb2.mono hb.size)⟩

/-- The decoder lies in block b, a block of the caller's own: its three fields, the third not frozen. -/
structure Dec (w : World) (b : Nat) (text : ByteArray) (pos depth : Int) : Prop where
  t : w.cell? ⟨b, 0, none⟩ = some (.string text)
  p : w.cell? ⟨b, 1, none⟩ = some (.int .i64 pos)
  d : w.cell? ⟨b, 2, none⟩ = some (.int .i64 depth)
  pf : w.frozen? ⟨b, 1, none⟩ = false
  df : w.frozen? ⟨b, 2, none⟩ = false

theorem Dec.later {w w' : World} {b : Nat} {text : ByteArray} {pos depth : Int} (h : Dec w b text pos depth) (hb : Below w.heap.size w w') : Dec w' b text pos depth := by
  have hlt := World.block_lt_of_cell? _ _ h.t
  exact ⟨cell_later hb h.t, cell_later hb h.p, cell_later hb h.d, (hb.frozen (p := ⟨b, 1, none⟩) hlt).trans h.pf, (hb.frozen (p := ⟨b, 2, none⟩) hlt).trans h.df⟩

theorem Dec.put {w : World} {b : Nat} {text : ByteArray} {pos depth : Int} (h : Dec w b text pos depth) (d : Int) : Dec (w.setCell ⟨b, 2, none⟩ (.int .i64 d)) b text pos d := by
  obtain ⟨h1, h2, h3, h4, h5⟩ := h
  refine ⟨?_, ?_, ?_, ?_, ?_⟩ <;> go_simp

theorem Tab.put {w : World} (h : Tab w) (b o : Nat) (hb : 0 < b) (v : Value) : Tab (w.setCell ⟨b, o, none⟩ v) := h.on (B := b) ((Below.refl _ _).setCell (p := ⟨b, o, none⟩) (Nat.le_refl _) _) hb

/-- The block just laid is a decoder. -/
theorem Dec.new (w : World) (text : ByteArray) (pos depth : Int) : Dec (w.alloc (.cells #[.string text, .int .i64 pos, .int .i64 depth] 24)) w.heap.size text pos depth := by
  refine ⟨?_, ?_, ?_, ?_, ?_⟩ <;> simp

/-- An error's value: not nil just where p. -/
def ErrIff (v : Value) (p : Prop) : Prop := (v = .nilIface ∧ ¬ p) ∨ ∃ u, v = .iface 36 u ∧ p

set_option maxHeartbeats 400000 in
theorem enter_any (b : Nat) (text : ByteArray) (pos depth : Int) (w : World) (hd : Dec w b text pos depth) (hp : I64 pos) (ht : Tab w) (hb0 : 0 < b) :
    Calls Ybad.prog 7 #[.pointer (some ⟨b, 0, none⟩)] w fun e w' => ∃ v, e = .returned v ∧ ErrIff v (10000 < wrap64 (depth + 1)) ∧ Dec w' b text pos (wrap64 (depth + 1)) ∧ Below b w w' := by
  obtain ⟨c0, c1, c2, f1, f2⟩ := id hd
  have HD := hide hd
  clear hd c0 f1
  by_cases h : 10000 < wrap64 (depth + 1)
  · have HH := hide h
    go_enter Ybad.func7, Ybad.ntmps7
    go_wp2_with fail
    have H1 := hide ((unhide HD).put (wrap64 (depth + 1)))
    have HT1 := hide (ht.put b 2 hb0 (.int .i64 (wrap64 (depth + 1))))
    have HB1 : Hid (Below b w (w.setCell ⟨b, 2, none⟩ (.int .i64 (wrap64 (depth + 1))))) := hide ((Below.refl _ _).setCell (p := ⟨b, 2, none⟩) (Nat.le_refl _) _)
    refine (itoa_any 10000 _ (by unfold I64; omega) (unhide HT1)).mono ?_
    rintro e w1 ⟨s, rfl, hs, hb⟩
    have hlt := World.block_lt_of_cell? _ _ (unhide H1).t
    have H2 := hide ((unhide H1).later hb)
    have HT2 := hide ((unhide HT1).on hb (by omega))
    have HB2 := hide ((unhide HB1).trans (hb.mono (Nat.le_of_lt hlt)))
    clear c1 c2 f2 HD hb HT1 HB1 H1
    go_wp2_with fail
    refine (errorAt_any b pos _ w1 (by simp only [ByteArray.size_append, mk_size]; simp; omega) (unhide H2).p hp (unhide HT2)).mono ?_
    rintro e w2 ⟨v, rfl, hb2⟩
    have H3 := hide ((unhide H2).later hb2)
    have hlt2 := World.block_lt_of_cell? _ _ (unhide H2).t
    have HB3 := hide ((unhide HB2).trans (hb2.mono (Nat.le_of_lt hlt2)))
    clear HT2 HB2 H2 hb2
    go_wp2
    go_ret
    exact ⟨_, rfl, .inr ⟨_, rfl, unhide HH⟩, unhide H3, unhide HB3⟩
  · have HH := hide h
    go_enter Ybad.func7, Ybad.ntmps7
    go_wp2_with fail
    go_ret
    exact ⟨_, rfl, .inl ⟨rfl, Int.not_lt.2 (unhide HH)⟩, (unhide HD).put _, (Below.refl _ _).setCell (p := ⟨b, 2, none⟩) (Nat.le_refl _) _⟩

theorem Tab.pos {w : World} (h : Tab w) : 0 < w.heap.size :=
  World.block_lt_of_cell? w ⟨0, 0, none⟩ (Lib.TabIs.cell h gTab 0 (by rw [Lib.pow10Tab_length]; omega))

/-- What every law's walk is asked: true, and nothing that was there is changed. -/
def Yes (w : World) (e : Ending) (w' : World) : Prop := e = .returned (.bool true) ∧ Below w.heap.size w w'

set_option maxHeartbeats 400000 in
theorem count_any (text : ByteArray) (pos depth : Int) (w : World) (hp : I64 pos) (ht : Tab w) :
    Calls Ybad.prog 3 #[.string text, .int .i64 pos, .int .i64 depth] w (Yes w) := by
  have HN := hide (Dec.new w text pos depth)
  have HB : Hid (Below w.heap.size w (w.alloc (.cells #[.string text, .int .i64 pos, .int .i64 depth] 24))) := hide ((Below.refl _ _).alloc (Nat.le_refl _) _)
  have HT := hide (ht.on (unhide HB) ht.pos)
  have hb0 := ht.pos
  clear ht
  go_enter Ybad.func3, Ybad.ntmps3
  go_wp2_with fail
  refine (enter_any w.heap.size text pos depth _ (unhide HN) hp (unhide HT) hb0).mono ?_
  rintro e w1 ⟨v, rfl, hv, ⟨c0, c1, c2, f1, f2⟩, hb1⟩
  have HB1 := hide ((unhide HB).trans hb1)
  clear HN HB HT hb1 hp f1 f2 hb0
  rcases hv with ⟨rfl, h⟩ | ⟨u, rfl, h⟩
  · have hd : decide (10000 < wrap64 (depth + 1)) = false := by simpa using h
    clear h
    go_wp2
    go_ret
    exact ⟨rfl, unhide HB1⟩
  · have hd : decide (10000 < wrap64 (depth + 1)) = true := by simpa using h
    clear h
    go_wp2
    go_ret
    exact ⟨rfl, unhide HB1⟩

theorem leave_back (d : Int) (h : I64 d) : wrap64 (wrap64 (d + 1) - 1) = d := by
  unfold I64 at h; unfold wrap64; omega

set_option maxHeartbeats 400000 in
theorem leave_any (text : ByteArray) (pos depth : Int) (w : World) (hp : I64 pos) (hd : I64 depth) (ht : Tab w) :
    Calls Ybad.prog 5 #[.string text, .int .i64 pos, .int .i64 depth] w (Yes w) := by
  have HN := hide (Dec.new w text pos depth)
  have HB : Hid (Below w.heap.size w (w.alloc (.cells #[.string text, .int .i64 pos, .int .i64 depth] 24))) := hide ((Below.refl _ _).alloc (Nat.le_refl _) _)
  have HT := hide (ht.on (unhide HB) ht.pos)
  have hb0 := ht.pos
  have HE := leave_back depth hd
  clear ht hd
  go_enter Ybad.func5, Ybad.ntmps5
  go_wp2_with fail
  refine (enter_any w.heap.size text pos depth _ (unhide HN) hp (unhide HT) hb0).mono ?_
  rintro e w1 ⟨v, rfl, hv, ⟨c0, c1, c2, f1, f2⟩, hb1⟩
  have HB1 := hide ((unhide HB).trans hb1)
  clear HN HB HT hb1 hp f1 hb0 hv
  go_wp2_with (first | go_in)
  go_end0
  go_wp2
  go_ret
  exact ⟨rfl, (unhide HB1).setCell (p := ⟨w.heap.size, 2, none⟩) (Nat.le_refl _) _⟩

set_option maxHeartbeats 400000 in
theorem bound_any (off pos : Int) (w : World) (ho : 0 ≤ off ∧ off ≤ 255) (hp : I64 pos) (ht : Tab w) :
    Calls Ybad.prog 4 #[.int .u8 off, .int .i64 pos] w (Yes w) := by
  obtain ⟨ho0, ho1⟩ := ho
  have hm0 : 0 ≤ off % 7 := by omega
  have hm1 : off % 7 ≤ 6 := by omega
  have HN := hide (Dec.new w { data := #[91, 91] } pos (9997 + off % 7))
  have HB : Hid (Below w.heap.size w (w.alloc (.cells #[.string { data := #[91, 91] }, .int .i64 pos, .int .i64 (9997 + off % 7)] 24))) := hide ((Below.refl _ _).alloc (Nat.le_refl _) _)
  have HT := hide (ht.on (unhide HB) ht.pos)
  have hb0 := ht.pos
  clear ht
  go_enter Ybad.func4, Ybad.ntmps4
  go_wp2_with fail
  refine (enter_any w.heap.size _ pos (9997 + off % 7) _ (unhide HN) hp (unhide HT) hb0).mono ?_
  rintro e w1 ⟨v, rfl, hv, ⟨c0, c1, c2, f1, f2⟩, hb1⟩
  have HB1 := hide ((unhide HB).trans hb1)
  clear HN HB HT hb1 hp f1 f2 hb0 c0
  have hwr : wrap64 (9997 + off % 7 + 1) = 9997 + off % 7 + 1 := by unfold wrap64; omega
  rw [hwr] at c2 hv
  clear hwr
  rcases hv with ⟨rfl, h⟩ | ⟨u, rfl, h⟩
  · have hd : 9997 + off % 7 + 1 ≤ 10000 := by omega
    clear h
    go_wp2
    go_ret
    exact ⟨rfl, unhide HB1⟩
  · go_wp2
    go_ret
    exact ⟨rfl, unhide HB1⟩
end Go.Proofs.YbulkanjoDoor.Dw
