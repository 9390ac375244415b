/-
  DERIVED. GIVEN WITH THE SEED: THE CARDS: each row of Qxb6615813aFmtRows.lean that lists a variable, with what it lists TIED to the program's text (the seventh form; the later family's looks); each row that meets fmt, with fmt's text TOLD by the authors' own Lean function (tested against real Go, not proved from fmt's source: count such statements apart). THE CARD IS WHAT COUNTS. Prove the row's statement (the work); the ties are given (Qxb6615813aFmtTie.lean); close each card by the builder's one call (the guide's Derived/Test/ToyasCard.lean, 'card_holds'). Laid BY PROGRAM, IN A SANDBOX (cutbox-door.mjs). By AI agents, Wed Nov 11 2026. No macro, syntax, notation, axiom, sorry.
-/
import Derived.Test.Qxb6615813aFmtRows
import GoSem.ClaimSeven
namespace Go.Proofs.Qxb6615813aFmt
namespace Rows

/-- THE TOLD AND TIED CARD OF 'zzlaws_internal_limiter_b1.FnParseKindAcceptsExactlyTheNames'. -/
def fnParseKindAcceptsExactlyTheNamesCard : Claim7 := { stood := { row := fnParseKindAcceptsExactlyTheNamesRow, standIns := [], harness := (true, "caacabf4f53d57bc97f8887d246c7b75e671040ef2d66f7b67f97261fac66599"), looks := false }, told := true, laidByText := true, laidKinds := [.calledDeep], laidTests := true, laidLooks := .later, goes := false }
def FnParseKindAcceptsExactlyTheNamesToldSaid : Prop := Claim7.holds Tryf.pinned (.plain (OpenSpec.ofChange fnParseKindAcceptsExactlyTheNamesSpec)) fnParseKindAcceptsExactlyTheNamesCard
/-- ITS FALSE NEIGHBOUR. Refute it at one input. -/
def FnParseKindAcceptsExactlyTheNamesToldWrongFalsely : Prop := Claim7.holds Tryf.pinned (.plain (OpenSpec.ofChange fnParseKindAcceptsExactlyTheNamesWrong)) fnParseKindAcceptsExactlyTheNamesCard

/-- THE TOLD AND TIED CARD OF 'zzlaws_internal_limiter_b1.FnParseKindRefusesANameWithAnythingAround'. -/
def fnParseKindRefusesANameWithAnythingAroundCard : Claim7 := { stood := { row := fnParseKindRefusesANameWithAnythingAroundRow, standIns := [], harness := (true, "caacabf4f53d57bc97f8887d246c7b75e671040ef2d66f7b67f97261fac66599"), looks := false }, told := true, laidByText := true, laidKinds := [.calledDeep], laidTests := true, laidLooks := .later, goes := false }
def FnParseKindRefusesANameWithAnythingAroundToldSaid : Prop := Claim7.holds Tryf.pinned (.plain (OpenSpec.ofChange fnParseKindRefusesANameWithAnythingAroundSpec)) fnParseKindRefusesANameWithAnythingAroundCard
/-- ITS FALSE NEIGHBOUR. Refute it at one input. -/
def FnParseKindRefusesANameWithAnythingAroundToldWrongFalsely : Prop := Claim7.holds Tryf.pinned (.plain (OpenSpec.ofChange fnParseKindRefusesANameWithAnythingAroundWrong)) fnParseKindRefusesANameWithAnythingAroundCard
end Rows
end Go.Proofs.Qxb6615813aFmt
