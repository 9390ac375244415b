/-
  No cell of these rows narrows 'for every input' (looked for: loops, veiled, ifaces, maps, wideKeys, modest, calm, conditions, laid).
  DERIVED. THE GIVEN ROWS OF THIS SEAT. 2 by the template 'for every input the law returns true; each argument reads behind the call as it read before'; 0 by the template 'total and deterministic' (their statements: Qxb6616142aTotals.lean).
  GIVEN WITH THE SEED: the statements are not yours to turn. If you find one false, say at which input.
  Laid BY PROGRAM, IN A SANDBOX (cutbox-rows.mjs): the forced cells as the released guide's own fill.sh prints them over the translation 3fd1f25ddae32b44… (all of the seat's roots in one cut). By AI agents, Wed Nov 11 2026. No macro, syntax, notation, axiom, sorry.
-/
import Derived.Test.Qxb6616142aChecked
import GoSem.Claim
import GoSem.ClaimJoined
import GoSem.ClaimMapViews
import Derived.JoinedTies
import Derived.KernelRfl
namespace Go.Proofs.Qxb6616142a
/- THE CELL 'sum', in the pinned program and in every row, IS THE sha256 OF THE DUMP (.gsa) THAT Qxb6616142aProg.lean LOADS. Nothing in Lean hashes anything: it is a label: what it is worth is what the hold of that sum in a sandbox is worth. -/
noncomputable def Try.pinned : Pinned := { name := "qxb6616142a", sum := "3fd1f25ddae32b44104f4a399595d16911fcd14d83ebbd51c6163e3e29195484", checked := Try.checked }
namespace Rows
def none {H : Type} : Left H := { results := [], args := [] }

/-- 'zzlaws_root_b1.FnAppendVarintFieldDecodesToKeyThenValue': WHATEVER THE INPUT: true; the input reads as it did. -/
def fnAppendVarintFieldDecodesToKeyThenValueSpec : ChangeSpec := { name := "fnAppendVarintFieldDecodesToKeyThenValue", fn := fun _ => fun
  | [d1, d2, d3] => { results := [.lit (.bool true)], args := [d1, d2, d3] }
  | _ => none }
def fnAppendVarintFieldDecodesToKeyThenValueRow : OpenClaim := { program := "qxb6616142a", sum := "3fd1f25ddae32b44104f4a399595d16911fcd14d83ebbd51c6163e3e29195484", func := "example.com/naysayr/naysayr/zzlaws_root_b1.FnAppendVarintFieldDecodesToKeyThenValue", spec := "fnAppendVarintFieldDecodesToKeyThenValue", apart := false }
def FnAppendVarintFieldDecodesToKeyThenValueSaid : Prop := fnAppendVarintFieldDecodesToKeyThenValueRow.holds Try.pinned (OpenSpec.ofChange fnAppendVarintFieldDecodesToKeyThenValueSpec)

/-- ITS FALSE NEIGHBOUR: 'it returns false'. Refute it at one input. -/
def fnAppendVarintFieldDecodesToKeyThenValueWrong : ChangeSpec := { name := "fnAppendVarintFieldDecodesToKeyThenValue", fn := fun _ => fun
  | [d1, d2, d3] => { results := [.lit (.bool false)], args := [d1, d2, d3] }
  | _ => none }
def FnAppendVarintFieldDecodesToKeyThenValueWrongFalsely : Prop := fnAppendVarintFieldDecodesToKeyThenValueRow.holds Try.pinned (OpenSpec.ofChange fnAppendVarintFieldDecodesToKeyThenValueWrong)

/-- 'zzlaws_root_b1.FnAppendVarintFieldConcatenatesAndSizes': WHATEVER THE INPUT: true; the input reads as it did. -/
def fnAppendVarintFieldConcatenatesAndSizesSpec : ChangeSpec := { name := "fnAppendVarintFieldConcatenatesAndSizes", fn := fun _ => fun
  | [d1, d2, d3, d4, d5] => { results := [.lit (.bool true)], args := [d1, d2, d3, d4, d5] }
  | _ => none }
def fnAppendVarintFieldConcatenatesAndSizesRow : OpenClaim := { program := "qxb6616142a", sum := "3fd1f25ddae32b44104f4a399595d16911fcd14d83ebbd51c6163e3e29195484", func := "example.com/naysayr/naysayr/zzlaws_root_b1.FnAppendVarintFieldConcatenatesAndSizes", spec := "fnAppendVarintFieldConcatenatesAndSizes", apart := false }
def FnAppendVarintFieldConcatenatesAndSizesSaid : Prop := fnAppendVarintFieldConcatenatesAndSizesRow.holds Try.pinned (OpenSpec.ofChange fnAppendVarintFieldConcatenatesAndSizesSpec)

/-- ITS FALSE NEIGHBOUR: 'it returns false'. Refute it at one input. -/
def fnAppendVarintFieldConcatenatesAndSizesWrong : ChangeSpec := { name := "fnAppendVarintFieldConcatenatesAndSizes", fn := fun _ => fun
  | [d1, d2, d3, d4, d5] => { results := [.lit (.bool false)], args := [d1, d2, d3, d4, d5] }
  | _ => none }
def FnAppendVarintFieldConcatenatesAndSizesWrongFalsely : Prop := fnAppendVarintFieldConcatenatesAndSizesRow.holds Try.pinned (OpenSpec.ofChange fnAppendVarintFieldConcatenatesAndSizesWrong)

end Rows
end Go.Proofs.Qxb6616142a
