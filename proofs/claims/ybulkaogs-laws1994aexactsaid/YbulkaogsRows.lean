/-
  No cell of these rows narrows 'for every input' (looked for: loops, veiled, ifaces, maps, wideKeys, modest, calm, conditions, laid).
  DERIVED. THE GIVEN ROWS OF THIS SEAT. 1 by the template 'for every input the law returns true; each argument reads behind the call as it read before'; 0 by the template 'total and deterministic' (their statements: YbulkaogsTotals.lean).
  GIVEN WITH THE SEED: the statements are not yours to turn. If you find one false, say at which input.
  Laid BY PROGRAM, IN A SANDBOX (cutbox-rows.mjs): the forced cells as the released guide's own fill.sh prints them over the translation 7dd0d284e5a93521… (all of the seat's roots in one cut). By AI agents, Wed Nov 11 2026. No macro, syntax, notation, axiom, sorry.
-/
import Derived.Test.YbulkaogsChecked
import GoSem.Claim
import GoSem.ClaimJoined
import GoSem.ClaimMapViews
import Derived.JoinedTies
import Derived.KernelRfl
namespace Go.Proofs.Ybulkaogs
/- THE CELL 'sum', in the pinned program and in every row, IS THE sha256 OF THE DUMP (.gsa) THAT YbulkaogsProg.lean LOADS. Nothing in Lean hashes anything: it is a label: what it is worth is what the hold of that sum in a sandbox is worth. -/
noncomputable def Yba.pinned : Pinned := { name := "ybulkaogs", sum := "7dd0d284e5a9352168fb3ee12766b3f7ffe783be82fb594fc34479434d9d4ab6", checked := Yba.checked }
namespace Rows
def none {H : Type} : Left H := { results := [], args := [] }

/-- 'client.LawS1994AExact': WHATEVER THE INPUT: true; the input reads as it did. -/
def lawS1994AExactSpec : ChangeSpec := { name := "lawS1994AExact", fn := fun _ => fun
  | [d1, d2, d3, d4, d5, d6, d7] => { results := [.lit (.bool true)], args := [d1, d2, d3, d4, d5, d6, d7] }
  | _ => none }
def lawS1994AExactRow : OpenClaim := { program := "ybulkaogs", sum := "7dd0d284e5a9352168fb3ee12766b3f7ffe783be82fb594fc34479434d9d4ab6", func := "example.com/tidewire/tidewire/internal/client.LawS1994AExact", spec := "lawS1994AExact", unfollowed := true, recurses := true, apart := false }
def LawS1994AExactSaid : Prop := lawS1994AExactRow.holds Yba.pinned (OpenSpec.ofChange lawS1994AExactSpec)

/-- ITS FALSE NEIGHBOUR: 'it returns false'. Refute it at one input. -/
def lawS1994AExactWrong : ChangeSpec := { name := "lawS1994AExact", fn := fun _ => fun
  | [d1, d2, d3, d4, d5, d6, d7] => { results := [.lit (.bool false)], args := [d1, d2, d3, d4, d5, d6, d7] }
  | _ => none }
def LawS1994AExactWrongFalsely : Prop := lawS1994AExactRow.holds Yba.pinned (OpenSpec.ofChange lawS1994AExactWrong)

end Rows
end Go.Proofs.Ybulkaogs
