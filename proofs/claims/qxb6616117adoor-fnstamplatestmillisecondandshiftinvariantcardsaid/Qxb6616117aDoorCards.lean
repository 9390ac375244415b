/-
  DERIVED. GIVEN WITH THE SEED: THE CARDS: each row of Qxb6616117aDoorRows.lean that lists a variable, with what it lists TIED to the program's text (the seventh form; the later family's looks); each row that meets fmt, with fmt's text TOLD by the authors' own Lean function (tested against real Go, not proved from fmt's source: count such statements apart). THE CARD IS WHAT COUNTS. Prove the row's statement (the work); the ties are given (Qxb6616117aDoorTie.lean); close each card by the builder's one call (the guide's Derived/Test/ToyasCard.lean, 'card_holds'). Laid BY PROGRAM, IN A SANDBOX (cutbox-door.mjs). By AI agents, Wed Nov 11 2026. No macro, syntax, notation, axiom, sorry.
-/
import Derived.Test.Qxb6616117aDoorRows
import GoSem.ClaimSeven
namespace Go.Proofs.Qxb6616117aDoor
namespace Rows

/-- THE TIED CARD OF 'zzlaws_controller_b1.FnStampIsMillisecondFloorAndIdempotent'. -/
def fnStampIsMillisecondFloorAndIdempotentCard : Claim7 := { stood := { row := fnStampIsMillisecondFloorAndIdempotentRow, standIns := [], harness := (true, "4af2061d5eccf2a4376ae263cf484e508b794831e7a7512fff25c60b078d9aa1"), looks := false }, kinds := [], alts := [], laidByText := true, laidKinds := [.wider], laidTests := true, laidLooks := .later }
def FnStampIsMillisecondFloorAndIdempotentCardSaid : Prop := Claim7.holds Tryd.pinned (.plain (OpenSpec.ofChange fnStampIsMillisecondFloorAndIdempotentSpec)) fnStampIsMillisecondFloorAndIdempotentCard

/-- THE TIED CARD OF 'zzlaws_controller_b1.FnStampLatestMillisecondAndShiftInvariant'. -/
def fnStampLatestMillisecondAndShiftInvariantCard : Claim7 := { stood := { row := fnStampLatestMillisecondAndShiftInvariantRow, standIns := [], harness := (true, "4af2061d5eccf2a4376ae263cf484e508b794831e7a7512fff25c60b078d9aa1"), looks := false }, kinds := [], alts := [], laidByText := true, laidKinds := [.wider], laidTests := true, laidLooks := .later }
def FnStampLatestMillisecondAndShiftInvariantCardSaid : Prop := Claim7.holds Tryd.pinned (.plain (OpenSpec.ofChange fnStampLatestMillisecondAndShiftInvariantSpec)) fnStampLatestMillisecondAndShiftInvariantCard
end Rows
end Go.Proofs.Qxb6616117aDoor
