/-
  No cell of these rows narrows 'for every input' (looked for: loops, veiled, ifaces, maps, wideKeys, modest, calm, conditions, laid).
  DERIVED. THE GIVEN ROWS OF THIS SEAT. 1 by the template 'for every input the law returns true; each argument reads behind the call as it read before'; 0 by the template 'total and deterministic' (their statements: YbulkankqTotals.lean).
  GIVEN WITH THE SEED: the statements are not yours to turn. If you find one false, say at which input.
  Laid BY PROGRAM, IN A SANDBOX (cutbox-rows.mjs): the forced cells as the released guide's own fill.sh prints them over the translation dc030b383d040904… (all of the seat's roots in one cut). By AI agents, Wed Nov 11 2026. No macro, syntax, notation, axiom, sorry.
-/
import Derived.Test.YbulkankqChecked
import GoSem.Claim
import GoSem.ClaimJoined
import GoSem.ClaimMapViews
import Derived.JoinedTies
import Derived.KernelRfl
namespace Go.Proofs.Ybulkankq
/- THE CELL 'sum', in the pinned program and in every row, IS THE sha256 OF THE DUMP (.gsa) THAT YbulkankqProg.lean LOADS. Nothing in Lean hashes anything: it is a label: what it is worth is what the hold of that sum in a sandbox is worth. -/
noncomputable def Yba.pinned : Pinned := { name := "ybulkankq", sum := "dc030b383d040904dbcd26b58e2c6bd1c386929d14267bdf73f74e409e428043", checked := Yba.checked }
namespace Rows
def none {H : Type} : Left H := { results := [], args := [] }

/-- 'nonuniform.LawS1953CLookup': WHATEVER THE INPUT: true; the input reads as it did. -/
def lawS1953CLookupSpec : ChangeSpec := { name := "lawS1953CLookup", fn := fun _ => fun
  | [d1, d2, d3, d4, d5] => { results := [.lit (.bool true)], args := [d1, d2, d3, d4, d5] }
  | _ => none }
def lawS1953CLookupRow : OpenClaim := { program := "ybulkankq", sum := "dc030b383d040904dbcd26b58e2c6bd1c386929d14267bdf73f74e409e428043", func := "example.com/joinwise/joinwise/nonuniform.LawS1953CLookup", spec := "lawS1953CLookup", apart := false }
def LawS1953CLookupSaid : Prop := lawS1953CLookupRow.holds Yba.pinned (OpenSpec.ofChange lawS1953CLookupSpec)

/-- ITS FALSE NEIGHBOUR: 'it returns false'. Refute it at one input. -/
def lawS1953CLookupWrong : ChangeSpec := { name := "lawS1953CLookup", fn := fun _ => fun
  | [d1, d2, d3, d4, d5] => { results := [.lit (.bool false)], args := [d1, d2, d3, d4, d5] }
  | _ => none }
def LawS1953CLookupWrongFalsely : Prop := lawS1953CLookupRow.holds Yba.pinned (OpenSpec.ofChange lawS1953CLookupWrong)

end Rows
end Go.Proofs.Ybulkankq
