/- The statement 'Rows.LawS1951AFilterSaid', out of the walk (YbulkanjoFilter). The frame is the guide's own way (Below). -/
import Derived.Test.YbulkanjoFilter
import Derived.ProofKit
import Derived.OpenShut
import Derived.ShutString
import Derived.ChangeOld
import Derived.Deep.Slices
import Derived.Deep.Strs
namespace Go.Proofs.Ybulkanjo.lawS1951AFilter
open Go.ChangeShapes Go.WideShapes Go.ChangeAt Go.RowKit
open Go.Deep (open_slice)
set_option linter.unusedVariables false

theorem own : ownKnob Yba.prog.godebug = none := by kernel_rfl
theorem laidOut : laidOutB Yba.prog = true := by kernel_rfl
theorem cells32 : Yba.prog.cellsOf 32 = 3 := by kernel_rfl
theorem cells5 : Yba.prog.cellsOf 5 = 1 := by kernel_rfl
theorem cells9 : Yba.prog.cellsOf 9 = 1 := by kernel_rfl
theorem cells2 : Yba.prog.cellsOf 2 = 1 := by kernel_rfl

/-- What the walk is told of the slice that came in. -/
def IsItems (w : World) (a : Option Addr) (n c : Nat) : Prop :=
  (a = none ∧ n = 0 ∧ c = 0) ∨
  ∃ (x : Addr) (b off : Nat) (K : Nat → Int) (S : Nat → ByteArray) (N : Nat → Int), a = some x ∧ n ≤ maxLen ∧ (0 < n → x = ⟨b, off, none⟩) ∧ (∀ i, 0 ≤ K i ∧ K i ≤ 255) ∧
    ∀ i, i < n → w.cell? ⟨b, off + i * 3, none⟩ = some (.int .u8 (K i)) ∧ w.cell? ⟨b, off + i * 3 + 1, none⟩ = some (.string (S i)) ∧ w.cell? ⟨b, off + i * 3 + 2, none⟩ = some (.int .i64 (N i))

theorem walk (a0 : Option Addr) (len0 cap0 : Nat) (w : World) (w0 : IsItems w a0 len0 cap0) :
    Calls Yba.prog 3 #[.slice a0 len0 cap0] w fun e w' => e = .returned (.bool true) ∧ Below w.heap.size w w' := by
  rcases w0 with ⟨rfl, rfl, rfl⟩ | ⟨x, b, off, K, S, N, rfl, hm, hx, hK, hc⟩
  · exact Flt.filter_nil w
  · by_cases h : len0 ≤ 1024
    · exact Flt.filter_some x b off len0 cap0 K S N w h hx hK hc
    · exact Flt.filter_big _ len0 cap0 w (by omega) hm

theorem open_items {H : Type} {enc : TypeId × Value → H} {w : World} {fuel : Nat} {a0 : Option Addr} {len0 cap0 : Nat} {x : DataW H × List MemPlace}
    (h : DataW.trod enc Yba.prog w 0 (fun _ => true) true fuel 22 [.slice a0 len0 cap0] = some x) : IsItems w a0 len0 cap0 := by
  rcases open_slice Yba.underlying22 h with ⟨hcs, _⟩ | ⟨a, len, cap, m, n, D, Pl, hcs, hb, hl, hm, hmm, hxx, hx⟩
  · simp at hcs
    obtain ⟨rfl, rfl, rfl⟩ := hcs
    exact .inl ⟨rfl, rfl, rfl⟩
  · simp at hcs
    obtain ⟨rfl, rfl, rfl⟩ := hcs
    right
    have hlm : len0 ≤ m := by rw [hmm]; simp; omega
    have each : ∀ i, i < len0 → ∃ q : Int × ByteArray × Int, w.cell? (a.add (i * 3)) = some (.int .u8 q.1) ∧ w.cell? (a.add (i * 3 + 1)) = some (.string q.2.1) ∧ w.cell? (a.add (i * 3 + 2)) = some (.int .i64 q.2.2) ∧ (Lit.int .u8 q.1).wf = true := by
      intro i hi
      obtain ⟨cs', h1, h2⟩ := hx i (by omega)
      rw [cells32] at h1
      obtain ⟨_, hlen, hcell⟩ := World.cells?_some h1
      obtain ⟨xs, k, hk, hxy, _, hxl, hf⟩ := DataW.trod_struct Yba.underlying32 h2
      match xs, hxl, cs', hlen with
      | [y0, y1, y2], _, [v0, v1, v2], _ =>
        have g0 := hf 0 _ rfl
        have g1 := hf 1 _ rfl
        have g2 := hf 2 _ rfl
        simp [cells5, cells9, cells2] at g0 g1 g2
        have e0 := hcell 0 (by omega)
        have e1 := hcell 1 (by omega)
        have e2 := hcell 2 (by omega)
        rw [Deep.add_add] at e0 e1 e2
        obtain ⟨z0, q0, _, wz⟩ := DataW.trod_int Yba.underlying5 g0
        obtain ⟨s1, q1, _, _⟩ := DataW.trod_string Yba.underlying9 g1
        obtain ⟨z2, q2, _, _⟩ := DataW.trod_int Yba.underlying2 g2
        simp at q0 q1 q2
        subst q0 q1 q2
        exact ⟨(z0, s1, z2), by simpa using e0, by simpa using e1, by simpa using e2, wz⟩
    obtain ⟨q, hq⟩ := Deep.choose_lt each
    obtain ⟨b, off, spot⟩ := a
    refine ⟨_, b, off, fun i => if 0 ≤ (q i).1 ∧ (q i).1 ≤ 255 then (q i).1 else 0, fun i => (q i).2.1, fun i => (q i).2.2, rfl, by omega, ?_, ?_, ?_⟩
    · intro hp
      have := World.cell?_spot (hq 0 hp).1
      simp [Addr.add] at this
      simp [this]
    · intro i
      dsimp only
      split <;> omega
    · intro i hi
      have hsp : spot = none := by
        have := World.cell?_spot (hq 0 (by omega)).1
        simpa [Addr.add] using this
      subst hsp
      obtain ⟨e0, e1, e2, wz⟩ := hq i hi
      have hbd := bounds_u8 wz
      dsimp only
      rw [if_pos (by omega)]
      rw [Addr.add_lit] at e0 e1 e2
      exact ⟨e0, by rw [Nat.add_assoc]; exact e1, by rw [Nat.add_assoc]; exact e2⟩

set_option maxRecDepth 100000 in
theorem lifted (os : Os) (started : os.Started) (H : Type) (enc : TypeId × Value → H) :
    ReturnsInHanded {} Yba.checked os 3 .any (Rows.lawS1951AFilterSpec.pre6 enc Yba.prog Yba.f3 Rows.lawS1951AFilterRow.domain false) (Rows.lawS1951AFilterSpec.post enc Yba.prog Yba.f3 false true false false) := by
  refine returnsInHanded_of_change (C := Yba.checked) own started (by kernel_rfl) Yba.func3
    (ChangeSpec.witness6 (enc := enc) (C := Yba.checked) false ⟨#[], #[.slice none 0 0], []⟩ 8 (by kernel_rfl) (by kernel_rfl) (by kernel_rfl) (by kernel_rfl)) ?_
  intro W base args ds gs before hval0 hW hcnd _
  have hval : ∀ (j : Nat) t v, Yba.f3.params[j]? = some t → args[j]? = some v → Value.okWide Yba.prog W .any base t v := hval0
  have hW' := hW
  obtain ⟨p, q, hA0, hV, rfl, hfz, hnd⟩ := hW
  have hA : DataW.TrodAll enc Yba.prog W 0 (fun _ => true) true Yba.f3.params.toList args.toList ds p := hA0
  rw [Yba.params3] at hA hval
  obtain ⟨v0, vs0, d0, ds0, p0, q0, hargs, rfl, rfl, h0, r0⟩ := trodAll_cons hA
  obtain ⟨rfl, rfl, rfl⟩ := trodAll_nil r0
  obtain rfl : args = #[v0] := by cases args; simp_all
  obtain ⟨rfl, rfl⟩ := trodVars_none hV
  obtain ⟨a0, len0, cap0, rfl⟩ := okWide_slice Yba.underlying22 (hval 0 22 v0 rfl rfl)
  have k0 := h0
  have lt0 : ∀ x ∈ p0, x.block < W.heap.size := by obtain ⟨m, hm⟩ := k0; exact DataW.trod_lt m _ _ _ hm
  have w0 : IsItems W a0 len0 cap0 := by
    obtain ⟨fuel, hf⟩ := h0
    exact open_items hf
  clear hA0 hval0
  refine (walk a0 len0 cap0 W w0).mono fun e W' ⟨he, bel⟩ => ?_
  subst he
  exact ⟨_, rfl, _, _, _, [], _, [], hW', trodAll_mk1 (shut_bool Yba.underlying4 _), (trodAll_cons_mk (Below.trod laidOut (by kernel_rfl) (of_decide_eq_true (by kernel_rfl)) k0 bel lt0) trodAll_mk0), rfl, bel.frame _, fun h => by cases h⟩

theorem over : Rows.lawS1951AFilterRow.holds Yba.pinned (OpenSpec.ofChange Rows.lawS1951AFilterSpec) :=
  OpenClaim.holds_of_wide 3 Yba.f3 rfl rfl rfl rfl rfl rfl rfl ⟨rfl, rfl, rfl, rfl, rfl⟩ rfl rfl rfl rfl rfl (by kernel_rfl) Yba.func3 (by kernel_rfl)
    (of_decide_eq_true (by kernel_rfl)) (by unfold Func.isWrapper; first | (rw [if_pos (by decide +kernel)]; kernel_rfl) | (rw [if_neg (by decide +kernel)]; exact ⟨rfl, rfl⟩))
    (fun os started H enc _ => lifted os started H enc)

/-- THE STATEMENT -/
theorem proved : Rows.LawS1951AFilterSaid := over
#print axioms proved
end Go.Proofs.Ybulkanjo.lawS1951AFilter
