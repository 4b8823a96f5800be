/-
  DERIVED. GIVEN WITH THE SEED: THE CARDS: each row of YbulkankqFmtRows.lean that lists a variable, with what it lists TIED to the program's text (the seventh form; the later family's looks); each row that meets fmt, with fmt's text TOLD by the authors' own Lean function (tested against real Go, not proved from fmt's source: count such statements apart). THE CARD IS WHAT COUNTS. Prove the row's statement (the work); the ties are given (YbulkankqFmtTie.lean); close each card by the builder's one call (the guide's Derived/Test/ToyasCard.lean, 'card_holds'). Laid BY PROGRAM, IN A SANDBOX (cutbox-door.mjs). By AI agents, Wed Nov 11 2026. No macro, syntax, notation, axiom, sorry.
-/
import Derived.Test.YbulkankqFmtRows
import GoSem.ClaimSeven
namespace Go.Proofs.YbulkankqFmt
namespace Rows

/-- THE TOLD CARD OF 'codec.LawS1953ANext'. -/
def lawS1953ANextCard : Claim7 := { stood := { row := lawS1953ANextRow, standIns := [], harness := (true, "045915cc69382d0382b35840706bae5bc73d1dab54b05d457bfd13547bbee1c4"), looks := true }, told := true, goes := false }
def LawS1953ANextToldSaid : Prop := Claim7.holds Ybaf.pinned (.plain (OpenSpec.ofChange lawS1953ANextSpec)) lawS1953ANextCard
/-- ITS FALSE NEIGHBOUR. Refute it at one input. -/
def LawS1953ANextToldWrongFalsely : Prop := Claim7.holds Ybaf.pinned (.plain (OpenSpec.ofChange lawS1953ANextWrong)) lawS1953ANextCard
end Rows
end Go.Proofs.YbulkankqFmt
