/- The contract of OnStatus; the walk of LawS1994AExact. -/
import Derived.Test.YbulkaogsWalksA
import Derived.WalkLawsBesides
namespace Go.Proofs.Ybulkaogs.Ex
open Go.RowKit

theorem store_float (a : Addr) (k : FloatKind) (n : Nat) (m : Mode) (w : World) : (store a (.float k n) m).run Yba.prog w = stored Yba.prog w a (.float k n) m := run_store _ w a _ m rfl

def kOn : ByteArray := { data := #[111, 110, 83, 116, 97, 116, 117, 115] }

theorem at_three (w : World) (o1 o2 o3 : Obj) : (((w.alloc o1).alloc o2).alloc o3).heap[w.heap.size]? = some o1 ∧ (((w.alloc o1).alloc o2).alloc o3).heap[w.heap.size + 1]? = some o2 ∧ (((w.alloc o1).alloc o2).alloc o3).heap[w.heap.size + 1 + 1]? = some o3 := by
  have e1 : (w.alloc o1).heap.size = w.heap.size + 1 := by simp
  have e2 : ((w.alloc o1).alloc o2).heap.size = w.heap.size + 1 + 1 := by simp
  refine ⟨?_, ?_, ?_⟩
  · rw [Below.heap_alloc _ _ _ (by omega), Below.heap_alloc _ _ _ (by omega)]; exact heap_alloc_new w o1
  · rw [Below.heap_alloc _ _ _ (by omega), ← e1]; exact heap_alloc_new _ o2
  · rw [← e2]; exact heap_alloc_new _ o3

theorem at_two (w : World) (o1 o2 : Obj) : ((w.alloc o1).alloc o2).heap[w.heap.size]? = some o1 := by
  have e1 : (w.alloc o1).heap.size = w.heap.size + 1 := by simp
  rw [Below.heap_alloc _ _ _ (by omega)]; exact heap_alloc_new w o1

/-- The five properties of the law's own information object. -/
def KA (i : Nat) : ByteArray := match i with | 0 => kLevel | 1 => kCode | 2 => kDesc | 3 => kCode | _ => kDesc
def VA (level : ByteArray) (code : Option ByteArray) (desc decoy : ByteArray) (i : Nat) : Option ByteArray := match i with | 0 => some level | 1 => code | 2 => some desc | _ => some decoy
/-- The three properties that StatusInfo makes. -/
def VB (level code desc : ByteArray) (i : Nat) : Option ByteArray := match i with | 0 => some level | 1 => some code | _ => some desc

theorem five {w : World} {b fb : Nat} {level desc decoy : ByteArray} {code : Option ByteArray}
    (h : w.heap[b]? = some (.cells #[.string kLevel, .iface 9 (.string level), .string kCode, val fb code, .string kDesc, .iface 9 (.string desc), .string kCode, .iface 9 (.string decoy), .string kDesc, .iface 9 (.string decoy)] 24 (0, 0))) :
    Props w (some ⟨b, 0, none⟩) b 5 KA (VA level code desc decoy) fb := by
  refine ⟨fun _ => rfl, ?_⟩
  intro i hi
  rw [cell_of_row w b _ _ 24 (0, 0) h, cell_of_row w b _ _ 24 (0, 0) h]
  match i, hi with
  | 0, _ => exact ⟨rfl, rfl⟩
  | 1, _ => exact ⟨rfl, rfl⟩
  | 2, _ => exact ⟨rfl, rfl⟩
  | 3, _ => exact ⟨rfl, rfl⟩
  | 4, _ => exact ⟨rfl, rfl⟩

theorem three {w : World} {b : Nat} {level code desc : ByteArray}
    (h : w.heap[b]? = some (.cells #[.string kLevel, .iface 9 (.string level), .string kCode, .iface 9 (.string code), .string kDesc, .iface 9 (.string desc)] 24 (0, 0))) :
    Props w (some ⟨b, 0, none⟩) b 3 KA (VB level code desc) 0 := by
  refine ⟨fun _ => rfl, ?_⟩
  intro i hi
  rw [cell_of_row w b _ _ 24 (0, 0) h, cell_of_row w b _ _ 24 (0, 0) h]
  match i, hi with
  | 0, _ => exact ⟨rfl, rfl⟩
  | 1, _ => exact ⟨rfl, rfl⟩
  | 2, _ => exact ⟨rfl, rfl⟩

theorem ne_size {a b : ByteArray} (h : a.size ≠ b.size) : ¬ a = b := fun e => h (by rw [e])
theorem lc : ¬ kLevel = kCode := ne_size (by decide)
theorem ld : ¬ kLevel = kDesc := ne_size (by decide)
theorem cd : ¬ kCode = kDesc := ne_size (by decide)

theorem codeA (level : ByteArray) (code : Option ByteArray) (desc decoy : ByteArray) : res KA (VA level code desc decoy) kCode 5 = some code :=
  res_hit (k := 1) (by omega) (fun j hj => by have e : j = 0 := (by omega); subst e; exact lc) rfl
theorem descA (level : ByteArray) (code : Option ByteArray) (desc decoy : ByteArray) : res KA (VA level code desc decoy) kDesc 5 = some (some desc) :=
  res_hit (k := 2) (by omega) (fun j hj => by rcases (show j = 0 ∨ j = 1 by omega) with rfl | rfl; exact ld; exact cd) rfl
theorem codeB (level code desc : ByteArray) : res KA (VB level code desc) kCode 3 = some (some code) :=
  res_hit (k := 1) (by omega) (fun j hj => by have e : j = 0 := (by omega); subst e; exact lc) rfl
theorem descB (level code desc : ByteArray) : res KA (VB level code desc) kDesc 3 = some (some desc) :=
  res_hit (k := 2) (by omega) (fun j hj => by rcases (show j = 0 ∨ j = 1 by omega) with rfl | rfl; exact ld; exact cd) rfl

set_option maxHeartbeats 1000000 in
theorem onstatus_any (level code desc : ByteArray) (w : World) :
    Calls Yba.prog 5 #[.string level, .string code, .string desc] w fun e w' => e = .returned (.agg #[.string kOn, .float .f64 0, .nilIface, .slice (some ⟨w.heap.size + 1 + 1, 0, none⟩) 1 1]) ∧
      Props w' (some ⟨w.heap.size + 1, 0, none⟩) (w.heap.size + 1) 3 KA (VB level code desc) 0 ∧ w'.cell? ⟨w.heap.size + 1 + 1, 0, none⟩ = some (.iface 26 (.slice (some ⟨w.heap.size + 1, 0, none⟩) 3 3)) ∧ Below w.heap.size w w' := by
  have hsf := store_float
  go_enter Yba.func5, Yba.ntmps5
  go_wp2
  refine bodyPost_ret (v := .agg #[.string kOn, .float .f64 0, .nilIface, .slice (some ⟨w.heap.size + 1 + 1, 0, none⟩) 1 1]) (by simp [results, Yba.results5, go_sem, kOn]) rfl ⟨rfl, ?_, ?_, ?_⟩
  · exact three (at_three w _ _ _).2.1
  · rw [cell_of_row _ _ _ _ 20 (0, 0) (at_three w _ _ _).2.2]; rfl
  · exact (((Below.refl _ _).alloc (Nat.le_refl _) _).alloc (by simp) _).alloc (by simp; omega) _

/-- The law's answer, and that nothing that was there is changed. -/
def Yes (w : World) (e : Ending) (w' : World) : Prop := e = .returned (.bool true) ∧ Below w.heap.size w w'

/-- The code that is looked for. -/
def want (code : ByteArray) (codeNum : Bool) : ByteArray := if codeNum then { data := #[] } else code

theorem strOf_code (code : ByteArray) : strOf (some (some code)) = code := rfl
theorem strOf_num : strOf (some none) = { data := #[] } := rfl

set_option maxHeartbeats 1000000 in
theorem law0 (name level code desc decoy : ByteArray) (mode : Int) (codeNum : Bool) (w : World) (h0 : name.size ≤ 65536) (h1 : level.size ≤ 65536) (h2 : code.size ≤ 65536) (h3 : desc.size ≤ 65536) (h4 : decoy.size ≤ 65536) (hm0 : 0 ≤ mode) (hm1 : mode ≤ 255) (hm : mode % 4 = 0) :
    Calls Yba.prog 3 #[.string name, .string level, .string code, .string desc, .string decoy, .int .u8 mode, .bool codeNum] w (Yes w) := by
  have g0 : (name.size : Int) ≤ 65536 := by omega
  have g1 : (level.size : Int) ≤ 65536 := by omega
  have g2 : (code.size : Int) ≤ 65536 := by omega
  have g3 : (desc.size : Int) ≤ 65536 := by omega
  have g4 : (decoy.size : Int) ≤ 65536 := by omega
  have hsf := store_float
  cases codeNum with
  | false =>
    go_enter Yba.func3, Yba.ntmps3
    go_wp2_with fail
    refine (describe_any name .nilIface (some ⟨w.heap.size + 1 + 1, 0, none⟩) 2 2 (some ⟨w.heap.size, 0, none⟩) w.heap.size 5 5 KA (VA level (some code) desc decoy) 0 _ (by omega) ⟨.inl rfl, 26, .slice (some ⟨w.heap.size, 0, none⟩) 5 5, true, to_obj _ _ _, .inr ⟨_, _, _, rfl, by omega, by rw [cell_of_row _ _ _ _ 20 (0, 0) (at_three w _ _ _).2.2]; rfl⟩⟩ (five (at_three w _ _ _).1) code desc (by rw [codeA]; rfl) (by rw [descA]; rfl) h0 h2 h3).mono ?_
    rintro e w1 ⟨rfl, hb1⟩
    have HB := hide (((((Below.refl w.heap.size w).alloc (Nat.le_refl _) _).alloc (by simp) _).alloc (by simp; omega) _).trans (hb1.mono (by simp; omega)))
    clear hb1
    dsimp only
    go_wp2_with fail
    refine (expect_any name code desc _ h0 h2 h3).mono ?_
    rintro e w2 ⟨rfl, rfl⟩
    dsimp only
    go_wp2
    go_ret
    exact ⟨rfl, unhide HB⟩
  | true =>
    go_enter Yba.func3, Yba.ntmps3
    go_wp2_with fail
    refine (describe_any name .nilIface (some ⟨w.heap.size + 1 + 1, 0, none⟩) 2 2 (some ⟨w.heap.size, 0, none⟩) w.heap.size 5 5 KA (VA level none desc decoy) (floatOfInt .f64 (code.size : Int)) _ (by omega) ⟨.inl rfl, 26, .slice (some ⟨w.heap.size, 0, none⟩) 5 5, true, to_obj _ _ _, .inr ⟨_, _, _, rfl, by omega, by rw [cell_of_row _ _ _ _ 20 (0, 0) (at_three w _ _ _).2.2]; rfl⟩⟩ (five (at_three w _ _ _).1) { data := #[] } desc (by rw [codeA]; rfl) (by rw [descA]; rfl) h0 (by rw [mk_size]; simp) h3).mono ?_
    rintro e w1 ⟨rfl, hb1⟩
    have HB := hide (((((Below.refl w.heap.size w).alloc (Nat.le_refl _) _).alloc (by simp) _).alloc (by simp; omega) _).trans (hb1.mono (by simp; omega)))
    clear hb1
    dsimp only
    go_wp2_with fail
    refine (expect_any name { data := #[] } desc _ h0 (by rw [mk_size]; simp) h3).mono ?_
    rintro e w2 ⟨rfl, rfl⟩
    dsimp only
    go_wp2
    go_ret
    exact ⟨rfl, unhide HB⟩
end Go.Proofs.Ybulkaogs.Ex
