/- The witness of the laid rows: the heap that the door's own run leaves meets what the rows list. -/
import Derived.Test.Qxb6609285aDoorRows
import Derived.LaidMore
import Derived.Stop.Joined
namespace Go.Proofs.Qxb6609285aDoor
open Go

theorem own : ownKnob Tryd.prog.godebug = none := by kernel_rfl
theorem laidOut : laidOutB Tryd.prog = true := by kernel_rfl

/-- What the three rows list. -/
def laid3 : List (String × DataW Unit) := Rows.fnTallyFilterIsTheLiveFilterRow.laid

theorem door_met (os : Os) (args : Array Value) : laidMetH Tryd.prog laid3 ((World.doorLaid Tryd.prog 400 os).forCall (fun _ _ => 0) ⟨#[], args, []⟩).memory :=
  laidMetH_of_parts3 (fuel := 8) (laidMet_of_run' 8 (by kernel_rfl) (by kernel_rfl)) (by kernel_rfl) (by kernel_rfl)
#print axioms door_met
end Go.Proofs.Qxb6609285aDoor
