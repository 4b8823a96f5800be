/- What the row's list gives the walks: the table of powers of ten; the door's own heap meets the list. -/
import Derived.Test.YbulkanjoDoorWalks
import Derived.Test.YbulkanjoDoorTie
import Derived.ProofKit
import Derived.LaidMore
import Derived.OpenShut
import Derived.ShutString
import Derived.Stop.Joined
namespace Go.Proofs.YbulkanjoDoor.Dw
open Go.ChangeShapes Go.WideShapes Go.ChangeAt Go.RowKit
set_option maxRecDepth 100000

theorem own : ownKnob Ybad.prog.godebug = none := by kernel_rfl
theorem laidOut : laidOutB Ybad.prog = true := by kernel_rfl

/-- The three listed variables. -/
def laid3 : List (String × DataW Unit) := Rows.lawS1951BCountRow.laid

theorem door_met (os : Os) (args : Array Value) : laidMetH Ybad.prog laid3 ((World.doorLaid Ybad.prog 400 os).forCall (fun _ _ => 0) ⟨#[], args, []⟩).memory :=
  laidMetH_of_parts3 (fuel := 8) (laidMet_of_run' 8 (by kernel_rfl) (by kernel_rfl)) (by kernel_rfl) (by kernel_rfl)

theorem pow10_is : (Rows.laid_internal_strconv_uint64pow10 : DataW Unit) = Lib.tabData .u64 Lib.pow10Tab := by kernel_rfl
theorem tyTab : (Ybad.prog.globals[0]?).map (·.type) = some 49 := by kernel_rfl

theorem of_laid {W : World} (h : laidMetH Ybad.prog laid3 W) : Tab W := by
  rw [MakeChecks.laidMetH_plain _ _ _ (by kernel_rfl)] at h
  have h2 := laidMet.filter (fun x => x.1 == tabName) h
  have e : laid3.filter (fun x => x.1 == tabName) = [(tabName, Lib.tabData .u64 Lib.pow10Tab)] := by
    rw [← pow10_is]
    kernel_rfl
  rw [e] at h2
  exact Lib.tabIs_of_head gTab tyTab Ybad.underlying49 Ybad.underlying41 (by kernel_rfl) (by kernel_rfl) h2
end Go.Proofs.YbulkanjoDoor.Dw
