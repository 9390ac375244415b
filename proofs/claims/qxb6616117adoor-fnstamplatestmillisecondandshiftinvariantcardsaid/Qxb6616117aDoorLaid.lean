/-
  THE SEAT b6616117aD: one start that fits the listed variable. (What time.utcLoc holds is never read by these laws: its address alone is.) By an AI agent.
-/
import Derived.Test.Qxb6616117aDoorRows
import Derived.ProofKit
import Derived.LaidMore
import Derived.OpenShut
import Derived.Stop.Joined
namespace Go.Proofs.Qxb6616117aDoor
open Go.ChangeShapes Go.WideShapes Go.ChangeAt Go.RowKit

theorem own : ownKnob Tryd.prog.godebug = none := by kernel_rfl

/-- The door's own heap meets the condition: three closed facts. -/
theorem door_met (os : Os) (args : Array Value) : laidMetH Tryd.prog Rows.fnStampIsMillisecondFloorAndIdempotentRow.laid ((World.doorLaid Tryd.prog 14 os).forCall (fun _ _ => 0) ⟨#[], args, []⟩).memory :=
  laidMetH_of_parts3 (fuel := 8) (laidMet_of_run' 8 (by kernel_rfl) (by kernel_rfl)) (by kernel_rfl) (by kernel_rfl)
end Go.Proofs.Qxb6616117aDoor
