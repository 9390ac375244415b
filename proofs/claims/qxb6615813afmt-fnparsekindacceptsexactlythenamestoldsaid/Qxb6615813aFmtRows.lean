/-
  NARROWER THAN 'FOR EVERY INPUT', by the rows' own cells (each row's printed sentence says how): FnParseKindAcceptsExactlyTheNames: laid · FnParseKindRefusesANameWithAnythingAround: laid.
  DERIVED. THE GIVEN ROWS OF THIS SEAT. 2 by the template 'for every input the law returns true; each argument reads behind the call as it read before'; 0 by the template 'total and deterministic' (their statements: Qxb6615813aFmtTotals.lean).
  GIVEN WITH THE SEED: the statements are not yours to turn. If you find one false, say at which input.
  Laid BY PROGRAM, IN A SANDBOX (cutbox-rows.mjs): the forced cells as the released guide's own fill.sh prints them over the translation 9e8942eae50e1d4b… (all of the seat's roots in one cut). By AI agents, Wed Nov 11 2026. No macro, syntax, notation, axiom, sorry.
-/
import Derived.Test.Qxb6615813aFmtChecked
import GoSem.Claim
import GoSem.ClaimJoined
import GoSem.ClaimMapViews
import Derived.JoinedTies
import Derived.KernelRfl
namespace Go.Proofs.Qxb6615813aFmt
/- THE CELL 'sum', in the pinned program and in every row, IS THE sha256 OF THE DUMP (.gsa) THAT Qxb6615813aFmtProg.lean LOADS. Nothing in Lean hashes anything: it is a label: what it is worth is what the hold of that sum in a sandbox is worth. -/
noncomputable def Tryf.pinned : Pinned := { name := "qxb6615813afmt", sum := "9e8942eae50e1d4bcb910f63564f05c64ddf44b010ccb3a5a51fb4773fe8f021", checked := Tryf.checked }
namespace Rows
def none {H : Type} : Left H := { results := [], args := [] }

/- WHAT THE LISTED PACKAGE-LEVEL VARIABLES READ AS WHEN THE CALL BEGINS. Each datum BY PROGRAM (the guide's laid-datum.mjs) off the statement by which the dump's own 'gosem.cut.vars' lays the variable. In a bare row this is a premise. The card (Qxb6615813aFmtCards.lean) ties it to the program's text. -/
def laid_example_com_epistream_epistream_internal_limiter_kindNames {H : Type} : DataW H := .agg [.lit (.string [108, 105, 109, 105, 116, 101, 114]), .slice [.lit (.string [111, 102, 102]), .lit (.string [116, 111, 107, 101, 110]), .lit (.string [108, 101, 97, 107, 121])] []]

/-- 'zzlaws_internal_limiter_b1.FnParseKindAcceptsExactlyTheNames': WHATEVER THE INPUT: true; the input reads as it did. -/
def fnParseKindAcceptsExactlyTheNamesSpec : ChangeSpec := { name := "fnParseKindAcceptsExactlyTheNames", vars := ["example.com/epistream/epistream/internal/limiter.kindNames"], fn := fun _ => fun
  | [d, g1] => { results := [.lit (.bool true)], args := [d], vars := [g1] }
  | _ => none }
def fnParseKindAcceptsExactlyTheNamesRow : OpenClaim := { program := "qxb6615813afmt", sum := "9e8942eae50e1d4bcb910f63564f05c64ddf44b010ccb3a5a51fb4773fe8f021", func := "example.com/epistream/epistream/zzlaws_internal_limiter_b1.FnParseKindAcceptsExactlyTheNames", spec := "fnParseKindAcceptsExactlyTheNames", stops := ["fmt.Sprintf, its operands' methods called", "fmt.errorf"], inPlace := ["internal/abi.NoEscape", "internal/bytealg.MakeNoZero", "fmt.errorf", "fmt.Sprintf"], unfollowed := true, recurses := true, named := ["example.com/epistream/epistream/internal/limiter.kindNames"], apart := false, laid := [("example.com/epistream/epistream/internal/limiter.kindNames", laid_example_com_epistream_epistream_internal_limiter_kindNames)] }
/-- NO THEOREM (fmt's text is open here; it may be false): for the released tool's asking of the row's closed facts alone. THE STATEMENT IS 'FnParseKindAcceptsExactlyTheNamesToldSaid' (Qxb6615813aFmtCards.lean). -/
def FnParseKindAcceptsExactlyTheNamesFormAsk : Prop := fnParseKindAcceptsExactlyTheNamesRow.holds Tryf.pinned (OpenSpec.ofChange fnParseKindAcceptsExactlyTheNamesSpec)

/-- ITS FALSE NEIGHBOUR: 'it returns false'. Refute it at one input. -/
def fnParseKindAcceptsExactlyTheNamesWrong : ChangeSpec := { name := "fnParseKindAcceptsExactlyTheNames", vars := ["example.com/epistream/epistream/internal/limiter.kindNames"], fn := fun _ => fun
  | [d, g1] => { results := [.lit (.bool false)], args := [d], vars := [g1] }
  | _ => none }
def FnParseKindAcceptsExactlyTheNamesWrongFormAsk : Prop := fnParseKindAcceptsExactlyTheNamesRow.holds Tryf.pinned (OpenSpec.ofChange fnParseKindAcceptsExactlyTheNamesWrong)

/-- 'zzlaws_internal_limiter_b1.FnParseKindRefusesANameWithAnythingAround': WHATEVER THE INPUT: true; the input reads as it did. -/
def fnParseKindRefusesANameWithAnythingAroundSpec : ChangeSpec := { name := "fnParseKindRefusesANameWithAnythingAround", vars := ["example.com/epistream/epistream/internal/limiter.kindNames"], fn := fun _ => fun
  | [d1, d2, g1] => { results := [.lit (.bool true)], args := [d1, d2], vars := [g1] }
  | _ => none }
def fnParseKindRefusesANameWithAnythingAroundRow : OpenClaim := { program := "qxb6615813afmt", sum := "9e8942eae50e1d4bcb910f63564f05c64ddf44b010ccb3a5a51fb4773fe8f021", func := "example.com/epistream/epistream/zzlaws_internal_limiter_b1.FnParseKindRefusesANameWithAnythingAround", spec := "fnParseKindRefusesANameWithAnythingAround", stops := ["fmt.Sprintf, its operands' methods called", "fmt.errorf"], inPlace := ["internal/abi.NoEscape", "internal/bytealg.MakeNoZero", "fmt.errorf", "fmt.Sprintf"], unfollowed := true, recurses := true, named := ["example.com/epistream/epistream/internal/limiter.kindNames"], apart := false, laid := [("example.com/epistream/epistream/internal/limiter.kindNames", laid_example_com_epistream_epistream_internal_limiter_kindNames)] }
/-- NO THEOREM (fmt's text is open here; it may be false): for the released tool's asking of the row's closed facts alone. THE STATEMENT IS 'FnParseKindRefusesANameWithAnythingAroundToldSaid' (Qxb6615813aFmtCards.lean). -/
def FnParseKindRefusesANameWithAnythingAroundFormAsk : Prop := fnParseKindRefusesANameWithAnythingAroundRow.holds Tryf.pinned (OpenSpec.ofChange fnParseKindRefusesANameWithAnythingAroundSpec)

/-- ITS FALSE NEIGHBOUR: 'it returns false'. Refute it at one input. -/
def fnParseKindRefusesANameWithAnythingAroundWrong : ChangeSpec := { name := "fnParseKindRefusesANameWithAnythingAround", vars := ["example.com/epistream/epistream/internal/limiter.kindNames"], fn := fun _ => fun
  | [d1, d2, g1] => { results := [.lit (.bool false)], args := [d1, d2], vars := [g1] }
  | _ => none }
def FnParseKindRefusesANameWithAnythingAroundWrongFormAsk : Prop := fnParseKindRefusesANameWithAnythingAroundRow.holds Tryf.pinned (OpenSpec.ofChange fnParseKindRefusesANameWithAnythingAroundWrong)

end Rows
end Go.Proofs.Qxb6615813aFmt
