/- The walk of LawS1994AExact, the other modes. -/
import Derived.Test.YbulkaogsWalksB
namespace Go.Proofs.Ybulkaogs.Ex
open Go.RowKit

theorem Props.set {w : World} {a : Option Addr} {b n : Nat} {K : Nat → ByteArray} {V : Nat → Option ByteArray} {fb : Nat} (h : Props w a b n K V fb) (b' o : Nat) (v : Value) (hne : b ≠ b') : Props (w.setCell ⟨b', o, none⟩ v) a b n K V fb :=
  ⟨h.1, fun i hi => ⟨(World.cell?_of_block (a := ⟨b, i * 2, none⟩) (Below.heap_setCell _ _ _ _ hne)).trans (h.2 i hi).1, (World.cell?_of_block (a := ⟨b, i * 2 + 1, none⟩) (Below.heap_setCell _ _ _ _ hne)).trans (h.2 i hi).2⟩⟩

theorem onstatus_at (level code desc : ByteArray) (w : World) (i : Obj) :
    Calls Yba.prog 5 #[.string level, .string code, .string desc] ((w.alloc i).alloc (.cells #[.string { data := #[] }, .float .f64 0, .nilIface, .slice none 0 0] 29)) fun e w' => ∃ bp ba,
      e = .returned (.agg #[.string kOn, .float .f64 0, .nilIface, .slice (some ⟨ba, 0, none⟩) 1 1]) ∧ Props w' (some ⟨bp, 0, none⟩) bp 3 KA (VB level code desc) 0 ∧ w'.cell? ⟨ba, 0, none⟩ = some (.iface 26 (.slice (some ⟨bp, 0, none⟩) 3 3)) ∧
      w.heap.size + 1 < bp ∧ w.heap.size + 1 < ba ∧ Below w.heap.size w w' ∧ w.heap.size + 1 < w'.heap.size ∧
      w'.heap[w.heap.size + 1]? = some (.cells #[.string { data := #[] }, .float .f64 0, .nilIface, .slice none 0 0] 29 (0, 0)) := by
  refine (onstatus_any level code desc _).mono ?_
  rintro e w' ⟨he, hp, hc, hb⟩
  have e1 : (w.alloc i).heap.size = w.heap.size + 1 := by simp
  have e2 : ((w.alloc i).alloc (.cells #[.string { data := #[] }, .float .f64 0, .nilIface, .slice none 0 0] 29)).heap.size = w.heap.size + 1 + 1 := by simp
  have hh : w'.heap[w.heap.size + 1]? = some (.cells #[.string { data := #[] }, .float .f64 0, .nilIface, .slice none 0 0] 29 (0, 0)) := by
    rw [hb.block _ (by omega), ← e1]
    exact heap_alloc_new _ _
  refine ⟨_, _, he, hp, hc, by omega, by omega, ((((Below.refl _ _).alloc (Nat.le_refl _) _).alloc (by omega) _).trans (hb.mono (by omega))), lt_of_block hh, hh⟩

theorem cell_set {w : World} {b o' b' o : Nat} {v u : Value} (h : w.cell? ⟨b, o', none⟩ = some u) (hne : b ≠ b') : (w.setCell ⟨b', o, none⟩ v).cell? ⟨b, o', none⟩ = some u :=
  (World.cell?_of_block (a := ⟨b, o', none⟩) (Below.heap_setCell _ _ _ _ hne)).trans h

set_option maxHeartbeats 1000000 in
theorem law1 (name level code desc decoy : ByteArray) (mode : Int) (codeNum : Bool) (w : World) (h0 : name.size ≤ 65536) (h1 : level.size ≤ 65536) (h2 : code.size ≤ 65536) (h3 : desc.size ≤ 65536) (h4 : decoy.size ≤ 65536) (hm0 : 0 ≤ mode) (hm1 : mode ≤ 255) (hm : mode % 4 = 1) :
    Calls Yba.prog 3 #[.string name, .string level, .string code, .string desc, .string decoy, .int .u8 mode, .bool codeNum] w (Yes w) := by
  have g0 : (name.size : Int) ≤ 65536 := by omega
  have g1 : (level.size : Int) ≤ 65536 := by omega
  have g2 : (code.size : Int) ≤ 65536 := by omega
  have g3 : (desc.size : Int) ≤ 65536 := by omega
  have g4 : (decoy.size : Int) ≤ 65536 := by omega
  have hsf := store_float
  cases codeNum with
  | false =>
    go_enter Yba.func3, Yba.ntmps3
    go_wp2_with fail
    refine (describe_any name (.iface 26 (.slice (some ⟨w.heap.size, 0, none⟩) 5 5)) none 0 0 (some ⟨w.heap.size, 0, none⟩) w.heap.size 5 5 KA (VA level (some code) desc decoy) 0 _ (by omega) ⟨.inr ⟨_, _, rfl⟩, 26, .slice (some ⟨w.heap.size, 0, none⟩) 5 5, true, to_obj _ _ _, .inl ⟨rfl, rfl⟩⟩ (five (at_two w _ _)) code desc (by rw [codeA]; rfl) (by rw [descA]; rfl) h0 h2 h3).mono ?_
    rintro e w1 ⟨rfl, hb1⟩
    have HB := hide ((((Below.refl w.heap.size w).alloc (Nat.le_refl _) _).alloc (by simp) _).trans (hb1.mono (by simp; omega)))
    clear hb1
    dsimp only
    go_wp2_with fail
    refine (expect_any name code desc _ h0 h2 h3).mono ?_
    rintro e w2 ⟨rfl, rfl⟩
    dsimp only
    go_wp2
    go_ret
    exact ⟨rfl, unhide HB⟩
  | true =>
    go_enter Yba.func3, Yba.ntmps3
    go_wp2_with fail
    refine (describe_any name (.iface 26 (.slice (some ⟨w.heap.size, 0, none⟩) 5 5)) none 0 0 (some ⟨w.heap.size, 0, none⟩) w.heap.size 5 5 KA (VA level none desc decoy) (floatOfInt .f64 (code.size : Int)) _ (by omega) ⟨.inr ⟨_, _, rfl⟩, 26, .slice (some ⟨w.heap.size, 0, none⟩) 5 5, true, to_obj _ _ _, .inl ⟨rfl, rfl⟩⟩ (five (at_two w _ _)) { data := #[] } desc (by rw [codeA]; rfl) (by rw [descA]; rfl) h0 (by rw [mk_size]; simp) h3).mono ?_
    rintro e w1 ⟨rfl, hb1⟩
    have HB := hide ((((Below.refl w.heap.size w).alloc (Nat.le_refl _) _).alloc (by simp) _).trans (hb1.mono (by simp; omega)))
    clear hb1
    dsimp only
    go_wp2_with fail
    refine (expect_any name { data := #[] } desc _ h0 (by rw [mk_size]; simp) h3).mono ?_
    rintro e w2 ⟨rfl, rfl⟩
    dsimp only
    go_wp2
    go_ret
    exact ⟨rfl, unhide HB⟩

set_option maxHeartbeats 1000000 in
theorem law2 (name level code desc decoy : ByteArray) (mode : Int) (codeNum : Bool) (w : World) (h0 : name.size ≤ 65536) (h1 : level.size ≤ 65536) (h2 : code.size ≤ 65536) (h3 : desc.size ≤ 65536) (h4 : decoy.size ≤ 65536) (hm0 : 0 ≤ mode) (hm1 : mode ≤ 255) (hm : mode % 4 = 2) :
    Calls Yba.prog 3 #[.string name, .string level, .string code, .string desc, .string decoy, .int .u8 mode, .bool codeNum] w (Yes w) := by
  have g0 : (name.size : Int) ≤ 65536 := by omega
  have g1 : (level.size : Int) ≤ 65536 := by omega
  have g2 : (code.size : Int) ≤ 65536 := by omega
  have g3 : (desc.size : Int) ≤ 65536 := by omega
  have g4 : (decoy.size : Int) ≤ 65536 := by omega
  have hsf := store_float
  have hdd : descr name ByteArray.empty ByteArray.empty = name := by simp [descr]
  cases codeNum
  all_goals
    go_enter Yba.func3, Yba.ntmps3
    go_wp2_with fail
    refine (describe_any name (.iface 26 (.slice (some ⟨w.heap.size, 0, none⟩) 5 5)) (some ⟨w.heap.size + 1 + 1, 0, none⟩) 1 1 none 0 0 0 KA (VA level none desc decoy) 0 _ (by omega) ⟨.inr ⟨_, _, rfl⟩, 9, .string decoy, false, to_obj_str decoy, .inr ⟨_, _, _, rfl, by omega, by rw [cell_of_row _ _ _ _ 20 (0, 0) (at_three w _ _ _).2.2]; rfl⟩⟩ ⟨by omega, by omega⟩ ByteArray.empty ByteArray.empty rfl rfl h0 (by simp) (by simp)).mono ?_
    rintro e w1 ⟨rfl, hb1⟩
    have HB := hide (((((Below.refl w.heap.size w).alloc (Nat.le_refl _) _).alloc (by simp) _).alloc (by simp; omega) _).trans (hb1.mono (by simp; omega)))
    clear hb1
    rw [hdd]
    dsimp only
    go_wp2
    go_ret
    exact ⟨rfl, unhide HB⟩

set_option maxHeartbeats 1000000 in
theorem law3 (name level code desc decoy : ByteArray) (mode : Int) (codeNum : Bool) (w : World) (h0 : name.size ≤ 65536) (h1 : level.size ≤ 65536) (h2 : code.size ≤ 65536) (h3 : desc.size ≤ 65536) (h4 : decoy.size ≤ 65536) (hm0 : 0 ≤ mode) (hm1 : mode ≤ 255) (hm : mode % 4 = 3) :
    Calls Yba.prog 3 #[.string name, .string level, .string code, .string desc, .string decoy, .int .u8 mode, .bool codeNum] w (Yes w) := by
  have g0 : (name.size : Int) ≤ 65536 := by omega
  have g1 : (level.size : Int) ≤ 65536 := by omega
  have g2 : (code.size : Int) ≤ 65536 := by omega
  have g3 : (desc.size : Int) ≤ 65536 := by omega
  have g4 : (decoy.size : Int) ≤ 65536 := by omega
  have hsf := store_float
  cases codeNum
  all_goals
    go_enter Yba.func3, Yba.ntmps3
    go_wp2_with fail
    refine (onstatus_at level code desc w _).mono ?_
    rintro e w1 ⟨bp, ba, rfl, hp1, hc1, l1, l2, hb1, l3, hh⟩
    have HP := hide hp1
    have HC := hide hc1
    have HB := hide hb1
    have c0 : w1.cell? ⟨w.heap.size + 1, 0, none⟩ = some (.string { data := #[] }) := by rw [cell_of_row _ _ _ _ 29 (0, 0) hh]; rfl
    have c1 : w1.cell? ⟨w.heap.size + 1, 1, none⟩ = some (.float .f64 0) := by rw [cell_of_row _ _ _ _ 29 (0, 0) hh]; rfl
    have c2 : w1.cell? ⟨w.heap.size + 1, 2, none⟩ = some .nilIface := by rw [cell_of_row _ _ _ _ 29 (0, 0) hh]; rfl
    have c3 : w1.cell? ⟨w.heap.size + 1, 3, none⟩ = some (.slice none 0 0) := by rw [cell_of_row _ _ _ _ 29 (0, 0) hh]; rfl
    have f0 := frozen_of_row w1 (w.heap.size + 1) 0 _ 29 hh
    have f1 := frozen_of_row w1 (w.heap.size + 1) 1 _ 29 hh
    have f2 := frozen_of_row w1 (w.heap.size + 1) 2 _ 29 hh
    have f3 := frozen_of_row w1 (w.heap.size + 1) 3 _ 29 hh
    clear hp1 hc1 hb1 hh l3
    dsimp only
    go_wp2_with fail
    have hpW := (((((unhide HP).set (w.heap.size + 1) 0 (.string kOn) (by omega)).set (w.heap.size + 1) 1 (.float .f64 0) (by omega)).set (w.heap.size + 1) 2 .nilIface (by omega)).set (w.heap.size + 1) 3 (.slice (some ⟨ba, 0, none⟩) 1 1) (by omega)).set (w.heap.size + 1) 0 (.string name) (by omega)
    have hcW := cell_set (o := 0) (v := .string name) (cell_set (o := 3) (v := .slice (some ⟨ba, 0, none⟩) 1 1) (cell_set (o := 2) (v := .nilIface) (cell_set (o := 1) (v := .float .f64 0) (cell_set (o := 0) (v := .string kOn) (b' := w.heap.size + 1) (unhide HC) (by omega)) (b' := w.heap.size + 1) (by omega)) (b' := w.heap.size + 1) (by omega)) (b' := w.heap.size + 1) (by omega)) (b' := w.heap.size + 1) (by omega)
    have hbW : Below w.heap.size w (((((w1.setCell ⟨w.heap.size + 1, 0, none⟩ (.string kOn)).setCell ⟨w.heap.size + 1, 1, none⟩ (.float .f64 0)).setCell ⟨w.heap.size + 1, 2, none⟩ .nilIface).setCell ⟨w.heap.size + 1, 3, none⟩ (.slice (some ⟨ba, 0, none⟩) 1 1)).setCell ⟨w.heap.size + 1, 0, none⟩ (.string name)) :=
      (((((unhide HB).setCell (p := ⟨w.heap.size + 1, 0, none⟩) (by simp) _).setCell (p := ⟨w.heap.size + 1, 1, none⟩) (by simp) _).setCell (p := ⟨w.heap.size + 1, 2, none⟩) (by simp) _).setCell (p := ⟨w.heap.size + 1, 3, none⟩) (by simp) _).setCell (p := ⟨w.heap.size + 1, 0, none⟩) (by simp) _
    refine (describe_any name .nilIface (some ⟨ba, 0, none⟩) 1 1 (some ⟨bp, 0, none⟩) bp 3 3 KA (VB level code desc) 0 _ (by omega) ⟨.inl rfl, 26, .slice (some ⟨bp, 0, none⟩) 3 3, true, to_obj _ _ _, .inr ⟨_, _, _, rfl, by omega, hcW⟩⟩ hpW code desc (by rw [codeB]; rfl) (by rw [descB]; rfl) h0 h2 h3).mono ?_
    rintro e w3 ⟨rfl, hb3⟩
    have HB3 := hide (hbW.trans (hb3.mono hbW.size))
    clear hpW hcW hbW hb3 HP HC HB c0 c1 c2 c3 f0 f1 f2 f3
    dsimp only
    go_wp2_with fail
    refine (expect_any name code desc _ h0 h2 h3).mono ?_
    rintro e w4 ⟨rfl, rfl⟩
    dsimp only
    go_wp2
    go_ret
    exact ⟨rfl, unhide HB3⟩

set_option maxHeartbeats 1000000 in
theorem law_big (name level code desc decoy : ByteArray) (mode : Int) (codeNum : Bool) (w : World) (w0 : name.size ≤ maxLen) (w1 : level.size ≤ maxLen) (w2 : code.size ≤ maxLen) (w3 : desc.size ≤ maxLen) (w4 : decoy.size ≤ maxLen)
    (hbig : 65536 < name.size ∨ 65536 < level.size ∨ 65536 < code.size ∨ 65536 < desc.size ∨ 65536 < decoy.size) :
    Calls Yba.prog 3 #[.string name, .string level, .string code, .string desc, .string decoy, .int .u8 mode, .bool codeNum] w (Yes w) := by
  unfold maxLen at w0 w1 w2 w3 w4
  have key : ∃ t0 t1 t2 t3 t4 : Bool, decide ((65536 : Int) < (name.size : Int)) = t0 ∧ decide ((65536 : Int) < (level.size : Int)) = t1 ∧ decide ((65536 : Int) < (code.size : Int)) = t2 ∧ decide ((65536 : Int) < (desc.size : Int)) = t3 ∧ decide ((65536 : Int) < (decoy.size : Int)) = t4 ∧ (t0 || t1 || t2 || t3 || t4) = true := by
    refine ⟨_, _, _, _, _, rfl, rfl, rfl, rfl, rfl, ?_⟩
    simp only [Bool.or_eq_true, decide_eq_true_eq]
    omega
  obtain ⟨t0, t1, t2, t3, t4, d0, d1, d2, d3, d4, hor⟩ := key
  clear hbig
  cases t0 with
  | true =>
    go_enter Yba.func3, Yba.ntmps3
    go_wp2
    go_ret
    exact ⟨rfl, Below.refl _ _⟩
  | false =>
    cases t1 with
    | true =>
      go_enter Yba.func3, Yba.ntmps3
      go_wp2
      go_ret
      exact ⟨rfl, Below.refl _ _⟩
    | false =>
      cases t2 with
      | true =>
        go_enter Yba.func3, Yba.ntmps3
        go_wp2
        go_ret
        exact ⟨rfl, Below.refl _ _⟩
      | false =>
        cases t3 with
        | true =>
          go_enter Yba.func3, Yba.ntmps3
          go_wp2
          go_ret
          exact ⟨rfl, Below.refl _ _⟩
        | false =>
          cases t4 with
          | true =>
            go_enter Yba.func3, Yba.ntmps3
            go_wp2
            go_ret
            exact ⟨rfl, Below.refl _ _⟩
          | false => simp at hor

theorem law_any (name level code desc decoy : ByteArray) (mode : Int) (codeNum : Bool) (w : World) (w0 : name.size ≤ maxLen) (w1 : level.size ≤ maxLen) (w2 : code.size ≤ maxLen) (w3 : desc.size ≤ maxLen) (w4 : decoy.size ≤ maxLen) (hm0 : 0 ≤ mode) (hm1 : mode ≤ 255) :
    Calls Yba.prog 3 #[.string name, .string level, .string code, .string desc, .string decoy, .int .u8 mode, .bool codeNum] w (Yes w) := by
  by_cases hbig : 65536 < name.size ∨ 65536 < level.size ∨ 65536 < code.size ∨ 65536 < desc.size ∨ 65536 < decoy.size
  · exact law_big name level code desc decoy mode codeNum w w0 w1 w2 w3 w4 hbig
  · have h0 : name.size ≤ 65536 := by omega
    have h1 : level.size ≤ 65536 := by omega
    have h2 : code.size ≤ 65536 := by omega
    have h3 : desc.size ≤ 65536 := by omega
    have h4 : decoy.size ≤ 65536 := by omega
    rcases (show mode % 4 = 0 ∨ mode % 4 = 1 ∨ mode % 4 = 2 ∨ mode % 4 = 3 by omega) with hm | hm | hm | hm
    · exact law0 name level code desc decoy mode codeNum w h0 h1 h2 h3 h4 hm0 hm1 hm
    · exact law1 name level code desc decoy mode codeNum w h0 h1 h2 h3 h4 hm0 hm1 hm
    · exact law2 name level code desc decoy mode codeNum w h0 h1 h2 h3 h4 hm0 hm1 hm
    · exact law3 name level code desc decoy mode codeNum w h0 h1 h2 h3 h4 hm0 hm1 hm
end Go.Proofs.Ybulkaogs.Ex
