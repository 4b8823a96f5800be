/-
  No cell of these rows narrows 'for every input' (looked for: loops, veiled, ifaces, maps, wideKeys, modest, calm, conditions, laid).
  DERIVED. THE GIVEN ROWS OF THIS SEAT. 2 by the template 'for every input the law returns true; each argument reads behind the call as it read before'; 0 by the template 'total and deterministic' (their statements: YbulkanjoTotals.lean).
  GIVEN WITH THE SEED: the statements are not yours to turn. If you find one false, say at which input.
  Laid BY PROGRAM, IN A SANDBOX (cutbox-rows.mjs): the forced cells as the released guide's own fill.sh prints them over the translation 90aa21774db2d4dd… (all of the seat's roots in one cut). By AI agents, Wed Nov 11 2026. No macro, syntax, notation, axiom, sorry.
-/
import Derived.Test.YbulkanjoChecked
import GoSem.Claim
import GoSem.ClaimJoined
import GoSem.ClaimMapViews
import Derived.JoinedTies
import Derived.KernelRfl
namespace Go.Proofs.Ybulkanjo
/- THE CELL 'sum', in the pinned program and in every row, IS THE sha256 OF THE DUMP (.gsa) THAT YbulkanjoProg.lean LOADS. Nothing in Lean hashes anything: it is a label: what it is worth is what the hold of that sum in a sandbox is worth. -/
noncomputable def Yba.pinned : Pinned := { name := "ybulkanjo", sum := "90aa21774db2d4dd55a6c5ca09bcd60227426a88f5724b733f4fc76fc0fc4db1", checked := Yba.checked }
namespace Rows
def none {H : Type} : Left H := { results := [], args := [] }

/-- 'id-token-check.LawS1951AFilter': WHATEVER THE INPUT: true; the input reads as it did. -/
def lawS1951AFilterSpec : ChangeSpec := { name := "lawS1951AFilter", fn := fun _ => fun
  | [d] => { results := [.lit (.bool true)], args := [d] }
  | _ => none }
def lawS1951AFilterRow : OpenClaim := { program := "ybulkanjo", sum := "90aa21774db2d4dd55a6c5ca09bcd60227426a88f5724b733f4fc76fc0fc4db1", func := "example.com/id-token-check/id-token-check.LawS1951AFilter", spec := "lawS1951AFilter", apart := false }
def LawS1951AFilterSaid : Prop := lawS1951AFilterRow.holds Yba.pinned (OpenSpec.ofChange lawS1951AFilterSpec)

/-- ITS FALSE NEIGHBOUR: 'it returns false'. Refute it at one input. -/
def lawS1951AFilterWrong : ChangeSpec := { name := "lawS1951AFilter", fn := fun _ => fun
  | [d] => { results := [.lit (.bool false)], args := [d] }
  | _ => none }
def LawS1951AFilterWrongFalsely : Prop := lawS1951AFilterRow.holds Yba.pinned (OpenSpec.ofChange lawS1951AFilterWrong)

/-- 'id-token-check.LawS1951AInputKept': WHATEVER THE INPUT: true; the input reads as it did. -/
def lawS1951AInputKeptSpec : ChangeSpec := { name := "lawS1951AInputKept", fn := fun _ => fun
  | [d] => { results := [.lit (.bool true)], args := [d] }
  | _ => none }
def lawS1951AInputKeptRow : OpenClaim := { program := "ybulkanjo", sum := "90aa21774db2d4dd55a6c5ca09bcd60227426a88f5724b733f4fc76fc0fc4db1", func := "example.com/id-token-check/id-token-check.LawS1951AInputKept", spec := "lawS1951AInputKept", apart := false }
def LawS1951AInputKeptSaid : Prop := lawS1951AInputKeptRow.holds Yba.pinned (OpenSpec.ofChange lawS1951AInputKeptSpec)

/-- ITS FALSE NEIGHBOUR: 'it returns false'. Refute it at one input. -/
def lawS1951AInputKeptWrong : ChangeSpec := { name := "lawS1951AInputKept", fn := fun _ => fun
  | [d] => { results := [.lit (.bool false)], args := [d] }
  | _ => none }
def LawS1951AInputKeptWrongFalsely : Prop := lawS1951AInputKeptRow.holds Yba.pinned (OpenSpec.ofChange lawS1951AInputKeptWrong)

end Rows
end Go.Proofs.Ybulkanjo
