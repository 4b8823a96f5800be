/-
  No cell of these rows narrows 'for every input' (looked for: loops, veiled, ifaces, maps, wideKeys, modest, calm, conditions, laid).
  DERIVED. THE GIVEN ROWS OF THIS SEAT. 1 by the template 'for every input the law returns true; each argument reads behind the call as it read before'; 0 by the template 'total and deterministic' (their statements: YbulkankqFmtTotals.lean).
  GIVEN WITH THE SEED: the statements are not yours to turn. If you find one false, say at which input.
  Laid BY PROGRAM, IN A SANDBOX (cutbox-rows.mjs): the forced cells as the released guide's own fill.sh prints them over the translation 5c07d7fd18334018… (all of the seat's roots in one cut). By AI agents, Wed Nov 11 2026. No macro, syntax, notation, axiom, sorry.
-/
import Derived.Test.YbulkankqFmtChecked
import GoSem.Claim
import GoSem.ClaimJoined
import GoSem.ClaimMapViews
import Derived.JoinedTies
import Derived.KernelRfl
namespace Go.Proofs.YbulkankqFmt
/- THE CELL 'sum', in the pinned program and in every row, IS THE sha256 OF THE DUMP (.gsa) THAT YbulkankqFmtProg.lean LOADS. Nothing in Lean hashes anything: it is a label: what it is worth is what the hold of that sum in a sandbox is worth. -/
noncomputable def Ybaf.pinned : Pinned := { name := "ybulkankqfmt", sum := "5c07d7fd18334018a17daaa6d0594913c2d4b59aa882ad34aefe69fe57a8d48d", checked := Ybaf.checked }
namespace Rows
def none {H : Type} : Left H := { results := [], args := [] }

/-- 'codec.LawS1953ANext': WHATEVER THE INPUT: true; the input reads as it did. -/
def lawS1953ANextSpec : ChangeSpec := { name := "lawS1953ANext", fn := fun _ => fun
  | [d1, d2, d3, d4, d5, d6, d7, d8, d9] => { results := [.lit (.bool true)], args := [d1, d2, d3, d4, d5, d6, d7, d8, d9] }
  | _ => none }
def lawS1953ANextRow : OpenClaim := { program := "ybulkankqfmt", sum := "5c07d7fd18334018a17daaa6d0594913c2d4b59aa882ad34aefe69fe57a8d48d", func := "example.com/joinwise/joinwise/internal/codec.LawS1953ANext", spec := "lawS1953ANext", stops := ["fmt.errorf"], inPlace := ["fmt.errorf"], apart := false }
/-- NO THEOREM (fmt's text is open here; it may be false): for the released tool's asking of the row's closed facts alone. THE STATEMENT IS 'LawS1953ANextToldSaid' (YbulkankqFmtCards.lean). -/
def LawS1953ANextFormAsk : Prop := lawS1953ANextRow.holds Ybaf.pinned (OpenSpec.ofChange lawS1953ANextSpec)

/-- ITS FALSE NEIGHBOUR: 'it returns false'. Refute it at one input. -/
def lawS1953ANextWrong : ChangeSpec := { name := "lawS1953ANext", fn := fun _ => fun
  | [d1, d2, d3, d4, d5, d6, d7, d8, d9] => { results := [.lit (.bool false)], args := [d1, d2, d3, d4, d5, d6, d7, d8, d9] }
  | _ => none }
def LawS1953ANextWrongFormAsk : Prop := lawS1953ANextRow.holds Ybaf.pinned (OpenSpec.ofChange lawS1953ANextWrong)

end Rows
end Go.Proofs.YbulkankqFmt
