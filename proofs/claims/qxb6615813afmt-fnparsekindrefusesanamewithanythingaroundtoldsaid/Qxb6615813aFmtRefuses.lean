/-
  THE SEAT b6615813aF: 'Rows.FnParseKindRefusesANameWithAnythingAroundToldSaid', proved: the told and tied card. By an AI agent. fmt's text is told by a function of the authors' own, not proved from fmt's source; the law's answer does not hang on it.
-/
import Derived.Test.Qxb6615813aFmtLaid
import Derived.Test.Qxb6615813aFmtTie
import Derived.Test.Qxb6615813aFmtCards
import Derived.SevenTiedAt
namespace Go.Proofs.Qxb6615813aFmt.fnParseKindRefusesANameWithAnythingAround
open Go.ChangeShapes Go.WideShapes Go.ChangeAt Go.RowKit
open Go.ChangeMaps (open_string shut_string)
open Go.Extern.Stop Go.Stop Go.Extern

set_option maxRecDepth 100000 in
theorem lifted (os : Os) (started : os.Started) (H : Type) (enc : TypeId × Value → H) :
    ReturnsInTold none {} Tryf.checked os 4 .any Input.okWide ((OpenSpec.ofChange Rows.fnParseKindRefusesANameWithAnythingAroundSpec).preRow enc Tryf.prog Tryf.f4 Rows.fnParseKindRefusesANameWithAnythingAroundRow.domain false Rows.fnParseKindRefusesANameWithAnythingAroundRow.laid)
      (fun F => ((OpenSpec.ofChange Rows.fnParseKindRefusesANameWithAnythingAroundSpec).at F).post enc Tryf.prog Tryf.f4 false true false false) (aloneAtReturn Tryf.prog) nothingAlways := by
  refine returnsInTold_of_row (C := Tryf.checked) (s := OpenSpec.ofChange Rows.fnParseKindRefusesANameWithAnythingAroundSpec) (by kernel_rfl) own started (by kernel_rfl) Tryf.func4
    (OpenSpec.witness_stopped_atRef (enc := enc) (C := Tryf.checked) false (World.doorLaid Tryf.prog 28 os) #[.string ⟨#[]⟩, .string ⟨#[]⟩] rfl (by kernel_rfl) (by kernel_rfl) (by kernel_rfl)
      (OpenSpec.preRow_of_B rfl 8 (by kernel_rfl) (by kernel_rfl) (door_met os _))) ?_
  intro F W base args ds gs before _ hF hval0 hW _ _ _ hL _
  have hval : ∀ (j : Nat) t v, Tryf.f4.params[j]? = some t → args[j]? = some v → Value.okWide Tryf.prog W .any base t v := hval0
  have hW' := hW
  obtain ⟨p, q, hA0, hV, rfl, hfz, hnd⟩ := hW
  have hA : DataW.TrodAll enc Tryf.prog W 0 (fun _ => true) true Tryf.f4.params.toList args.toList ds p := hA0
  rw [Tryf.params4] at hA hval
  obtain ⟨v0, v1, d0, d1, p0, p1, rfl, rfl, rfl, h0, h1⟩ := trodAll_two hA
  obtain ⟨s, rfl, rfl, rfl, ws⟩ := open_string Tryf.underlying9 (hval 0 9 v0 rfl rfl) h0
  obtain ⟨t, rfl, rfl, rfl, wt⟩ := open_string Tryf.underlying9 (hval 1 9 v1 rfl rfl) h1
  obtain ⟨b, o, c, ht⟩ := of_laid hL
  clear hA0 hval0
  obtain ⟨g1, hg1⟩ : ∃ g, gs = [g] := by
    have h1 := hV
    match gs, h1 with
    | [g], _ => exact ⟨g, rfl⟩
    | [], h1 => exact h1.elim
    | _ :: _ :: _, h1 => obtain ⟨_, _, _, _, _, _, _, _, _, _, h2, _⟩ := h1; exact h2.elim
  subst hg1
  refine (refuses_any F.told s t b o c W hF ht ws wt).mono fun e W' ⟨he, bel⟩ => ?_
  subst he
  exact ⟨_, rfl, _, _, _, [], [] ++ [], q, hW', trodAll_mk1 (shut_bool Tryf.underlying4 _), trodAll_mk2 (shut_string Tryf.underlying9 ws) (shut_string Tryf.underlying9 wt), Below.trodVars laidOut bel (by kernel_rfl) hV, bel.frame _, fun h => by cases h⟩

theorem stops : Tryf.pinned.checked.prog.stops = Rows.fnParseKindRefusesANameWithAnythingAroundRow.stops := by kernel_rfl
theorem stopKnobs : Tryf.pinned.checked.prog.stopKnobs = [] := by kernel_rfl
theorem quiet (os : Os) : Stop.quiet Tryf.pinned.checked.prog os := by
  intro k hk
  rw [stopKnobs] at hk
  cases hk

/-- ████ THE STATEMENT ████ -/
theorem proved : Rows.FnParseKindRefusesANameWithAnythingAroundToldSaid :=
  Claim7.holds_of_told_tied_any_at .later 4 Tryf.f4 _ _ [] _ _ _ _ _ (by kernel_rfl) rfl rfl rfl laidOut7 (by kernel_rfl) rfl ⟨rfl, rfl, rfl, rfl, rfl, rfl, rfl⟩ rfl rfl (by kernel_rfl) (by kernel_rfl) Tryf.func4 (by kernel_rfl)
    (of_decide_eq_true (by kernel_rfl)) (by unfold Func.isWrapper; first | (rw [if_pos (by decide +kernel)]; kernel_rfl) | (rw [if_neg (by decide +kernel)]; exact ⟨rfl, rfl⟩)) stops.symm rfl stopKnobs.symm (by kernel_rfl)
    (by kernel_rfl) (by kernel_rfl) (by kernel_rfl) (by kernel_rfl) (by kernel_rfl) (by kernel_rfl) (by kernel_rfl) (by kernel_rfl) (by kernel_rfl) rfl (by kernel_rfl) rfl rfl
    rfl rfl
    rfl (by kernel_rfl) (by kernel_rfl) (by kernel_rfl) (by decide) (by kernel_rfl) fnParseKindRefusesANameWithAnythingAround_row_tie
    (OpenClaim.moreEntering_of (by kernel_rfl) (by kernel_rfl) (by kernel_rfl) (by kernel_rfl) (by kernel_rfl) (by kernel_rfl) (by kernel_rfl) (by kernel_rfl) (by kernel_rfl) (by kernel_rfl))
    ⟨_, WideRow.started_initial, quiet _⟩
    (fun os started _ H enc _ => lifted os started H enc)

#print axioms proved
end Go.Proofs.Qxb6615813aFmt.fnParseKindRefusesANameWithAnythingAround
