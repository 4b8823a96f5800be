/-
  DERIVED. GIVEN WITH THE SEED: THE CARDS: each row of YbulkanjoDoorRows.lean that lists a variable, with what it lists TIED to the program's text (the seventh form; the later family's looks); each row that meets fmt, with fmt's text TOLD by the authors' own Lean function (tested against real Go, not proved from fmt's source: count such statements apart). THE CARD IS WHAT COUNTS. Prove the row's statement (the work); the ties are given (YbulkanjoDoorTie.lean); close each card by the builder's one call (the guide's Derived/Test/ToyasCard.lean, 'card_holds'). Laid BY PROGRAM, IN A SANDBOX (cutbox-door.mjs). By AI agents, Wed Nov 11 2026. No macro, syntax, notation, axiom, sorry.
-/
import Derived.Test.YbulkanjoDoorRows
import GoSem.ClaimSeven
namespace Go.Proofs.YbulkanjoDoor
namespace Rows

/-- THE TIED CARD OF 'id-token-check.LawS1951BCount'. -/
def lawS1951BCountCard : Claim7 := { stood := { row := lawS1951BCountRow, standIns := [], harness := (true, "ff1a3bd62f5e1bec45075f4255126d3a31601392ca333c378258856fe99e90a8"), looks := true }, kinds := [], alts := [], laidByText := true, laidKinds := [.data, .data, .data], laidTests := true, laidLooks := .later }
def LawS1951BCountCardSaid : Prop := Claim7.holds Ybad.pinned (.plain (OpenSpec.ofChange lawS1951BCountSpec)) lawS1951BCountCard

/-- THE TIED CARD OF 'id-token-check.LawS1951BBound'. -/
def lawS1951BBoundCard : Claim7 := { stood := { row := lawS1951BBoundRow, standIns := [], harness := (true, "ff1a3bd62f5e1bec45075f4255126d3a31601392ca333c378258856fe99e90a8"), looks := true }, kinds := [], alts := [], laidByText := true, laidKinds := [.data, .data, .data], laidTests := true, laidLooks := .later }
def LawS1951BBoundCardSaid : Prop := Claim7.holds Ybad.pinned (.plain (OpenSpec.ofChange lawS1951BBoundSpec)) lawS1951BBoundCard

/-- THE TIED CARD OF 'id-token-check.LawS1951BLeave'. -/
def lawS1951BLeaveCard : Claim7 := { stood := { row := lawS1951BLeaveRow, standIns := [], harness := (true, "ff1a3bd62f5e1bec45075f4255126d3a31601392ca333c378258856fe99e90a8"), looks := true }, kinds := [], alts := [], laidByText := true, laidKinds := [.data, .data, .data], laidTests := true, laidLooks := .later }
def LawS1951BLeaveCardSaid : Prop := Claim7.holds Ybad.pinned (.plain (OpenSpec.ofChange lawS1951BLeaveSpec)) lawS1951BLeaveCard

/-- THE TIED CARD OF 'id-token-check.LawS1951CReads'. -/
def lawS1951CReadsCard : Claim7 := { stood := { row := lawS1951CReadsRow, standIns := [], harness := (true, "ff1a3bd62f5e1bec45075f4255126d3a31601392ca333c378258856fe99e90a8"), looks := true }, kinds := [], alts := [], laidByText := true, laidKinds := [.data, .data, .data], laidTests := true, laidLooks := .later }
def LawS1951CReadsCardSaid : Prop := Claim7.holds Ybad.pinned (.plain (OpenSpec.ofChange lawS1951CReadsSpec)) lawS1951CReadsCard
end Rows
end Go.Proofs.YbulkanjoDoor
