/-
  NARROWER THAN 'FOR EVERY INPUT', by the rows' own cells (each row's printed sentence says how): FnStampIsMillisecondFloorAndIdempotent: laid · FnStampLatestMillisecondAndShiftInvariant: laid.
  DERIVED. THE GIVEN ROWS OF THIS SEAT. 2 by the template 'for every input the law returns true; each argument reads behind the call as it read before'; 0 by the template 'total and deterministic' (their statements: Qxb6616117aDoorTotals.lean).
  GIVEN WITH THE SEED: the statements are not yours to turn. If you find one false, say at which input.
  Laid BY PROGRAM, IN A SANDBOX (cutbox-rows.mjs): the forced cells as the released guide's own fill.sh prints them over the translation d76a1e419b13e82c… (all of the seat's roots in one cut). By AI agents, Wed Nov 11 2026. No macro, syntax, notation, axiom, sorry.
-/
import Derived.Test.Qxb6616117aDoorChecked
import GoSem.Claim
import GoSem.ClaimJoined
import GoSem.ClaimMapViews
import Derived.JoinedTies
import Derived.KernelRfl
namespace Go.Proofs.Qxb6616117aDoor
/- THE CELL 'sum', in the pinned program and in every row, IS THE sha256 OF THE DUMP (.gsa) THAT Qxb6616117aDoorProg.lean LOADS. Nothing in Lean hashes anything: it is a label: what it is worth is what the hold of that sum in a sandbox is worth. -/
noncomputable def Tryd.pinned : Pinned := { name := "qxb6616117adoor", sum := "d76a1e419b13e82c7f36e54062915484a492913a59caeea796a1977c7149e5de", checked := Tryd.checked }
namespace Rows
def none {H : Type} : Left H := { results := [], args := [] }

/- WHAT THE LISTED PACKAGE-LEVEL VARIABLES READ AS WHEN THE CALL BEGINS. Each datum BY PROGRAM (the guide's laid-datum.mjs) off the statement by which the dump's own 'gosem.cut.vars' lays the variable. In a bare row this is a premise. The card (Qxb6616117aDoorCards.lean) ties it to the program's text. -/
def laid_time_utcLoc {H : Type} : DataW H := .agg [.lit (.string [85, 84, 67]), .nil, .nil, .lit (.string []), .lit (.int .i64 0), .lit (.int .i64 0), .nil]

/-- 'zzlaws_controller_b1.FnStampIsMillisecondFloorAndIdempotent': WHATEVER THE INPUT: true; the input reads as it did. -/
def fnStampIsMillisecondFloorAndIdempotentSpec : ChangeSpec := { name := "fnStampIsMillisecondFloorAndIdempotent", fn := fun _ => fun
  | [d1, d2] => { results := [.lit (.bool true)], args := [d1, d2] }
  | _ => none }
def fnStampIsMillisecondFloorAndIdempotentRow : OpenClaim := { program := "qxb6616117adoor", sum := "d76a1e419b13e82c7f36e54062915484a492913a59caeea796a1977c7149e5de", func := "example.com/muster/muster/zzlaws_controller_b1.FnStampIsMillisecondFloorAndIdempotent", spec := "fnStampIsMillisecondFloorAndIdempotent", named := ["time.utcLoc"], apart := false, laid := [("time.utcLoc", laid_time_utcLoc)] }
def FnStampIsMillisecondFloorAndIdempotentSaid : Prop := fnStampIsMillisecondFloorAndIdempotentRow.holds Tryd.pinned (OpenSpec.ofChange fnStampIsMillisecondFloorAndIdempotentSpec)

/-- ITS FALSE NEIGHBOUR: 'it returns false'. Refute it at one input. -/
def fnStampIsMillisecondFloorAndIdempotentWrong : ChangeSpec := { name := "fnStampIsMillisecondFloorAndIdempotent", fn := fun _ => fun
  | [d1, d2] => { results := [.lit (.bool false)], args := [d1, d2] }
  | _ => none }
def FnStampIsMillisecondFloorAndIdempotentWrongFalsely : Prop := fnStampIsMillisecondFloorAndIdempotentRow.holds Tryd.pinned (OpenSpec.ofChange fnStampIsMillisecondFloorAndIdempotentWrong)

/-- 'zzlaws_controller_b1.FnStampLatestMillisecondAndShiftInvariant': WHATEVER THE INPUT: true; the input reads as it did. -/
def fnStampLatestMillisecondAndShiftInvariantSpec : ChangeSpec := { name := "fnStampLatestMillisecondAndShiftInvariant", fn := fun _ => fun
  | [d1, d2, d3] => { results := [.lit (.bool true)], args := [d1, d2, d3] }
  | _ => none }
def fnStampLatestMillisecondAndShiftInvariantRow : OpenClaim := { program := "qxb6616117adoor", sum := "d76a1e419b13e82c7f36e54062915484a492913a59caeea796a1977c7149e5de", func := "example.com/muster/muster/zzlaws_controller_b1.FnStampLatestMillisecondAndShiftInvariant", spec := "fnStampLatestMillisecondAndShiftInvariant", named := ["time.utcLoc"], apart := false, laid := [("time.utcLoc", laid_time_utcLoc)] }
def FnStampLatestMillisecondAndShiftInvariantSaid : Prop := fnStampLatestMillisecondAndShiftInvariantRow.holds Tryd.pinned (OpenSpec.ofChange fnStampLatestMillisecondAndShiftInvariantSpec)

/-- ITS FALSE NEIGHBOUR: 'it returns false'. Refute it at one input. -/
def fnStampLatestMillisecondAndShiftInvariantWrong : ChangeSpec := { name := "fnStampLatestMillisecondAndShiftInvariant", fn := fun _ => fun
  | [d1, d2, d3] => { results := [.lit (.bool false)], args := [d1, d2, d3] }
  | _ => none }
def FnStampLatestMillisecondAndShiftInvariantWrongFalsely : Prop := fnStampLatestMillisecondAndShiftInvariantRow.holds Tryd.pinned (OpenSpec.ofChange fnStampLatestMillisecondAndShiftInvariantWrong)

end Rows
end Go.Proofs.Qxb6616117aDoor
