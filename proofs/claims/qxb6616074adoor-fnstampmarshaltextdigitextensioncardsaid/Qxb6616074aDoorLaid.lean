/-
  THE SEAT b6616074aD: what the listed tables give the walks, and one start that fits. By an AI agent.
-/
import Derived.Test.Qxb6616074aDoorRows
import Derived.Test.Qxb6616074aDoorExt
import Derived.ProofKit
import Derived.LaidMore
import Derived.OpenShut
import Derived.Lib.LaidTab
import Derived.Stop.Joined
import Derived.Stop.LaidErr
namespace Go.Proofs.Qxb6616074aDoor
open Go.ChangeShapes Go.WideShapes Go.ChangeAt Go.RowKit

theorem own : ownKnob Tryd.prog.godebug = none := by kernel_rfl
theorem laidOut : laidOutB Tryd.prog = true := by kernel_rfl

/-- The door's own heap meets the condition: three closed facts. -/
theorem door_met (os : Os) (args : Array Value) : laidMetH Tryd.prog Rows.fnStampMarshalTextDigitExtensionRow.laid ((World.doorLaid Tryd.prog 24 os).forCall (fun _ _ => 0) ⟨#[], args, []⟩).memory :=
  laidMetH_of_parts3 (fuel := 8) (laidMet_of_run' 8 (by kernel_rfl) (by kernel_rfl)) (by kernel_rfl) (by kernel_rfl)

theorem tab_data : (Rows.laid_internal_strconv_uint64pow10 : DataW Unit) = Lib.tabData .u64 Lib.pow10Tab := by kernel_rfl

/-- WHAT THE CONDITION GIVES THE WALKS: the table of powers of ten. -/
theorem of_laid {W : World} (h : laidMetH Tryd.prog Rows.fnStampMarshalTextDigitExtensionRow.laid W) : Lib.TabIs Tryd.prog W powName .u64 Lib.pow10Tab := by
  rw [MakeChecks.laidMetH_plain _ _ _ (by kernel_rfl)] at h
  have h2 : laidMet Tryd.prog [(powName, Rows.laid_internal_strconv_uint64pow10)] W := laidMet.tail (laidMet.tail h)
  rw [tab_data] at h2
  exact Lib.tabIs_of_head (g := 0) (t := 46) (e := 22) (n := 20) (by kernel_rfl) (by kernel_rfl) Tryd.underlying46 Tryd.underlying22 (by kernel_rfl) (by kernel_rfl) h2
end Go.Proofs.Qxb6616074aDoor
