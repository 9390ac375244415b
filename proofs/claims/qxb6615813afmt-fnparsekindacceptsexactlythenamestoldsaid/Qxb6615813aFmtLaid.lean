/-
  THE SEAT b6615813aF: what the listed variable 'kindNames' gives the walks, and one start that fits. By an AI agent.
-/
import Derived.Test.Qxb6615813aFmtRows
import Derived.Test.Qxb6615813aFmtW3
import Derived.ProofKit
import Derived.LaidMore
import Derived.OpenShut
import Derived.OpenVars
import Derived.Stop.Joined
import Derived.Stop.JoinedTold
import Derived.Deep.DeepWitnessRef
namespace Go.Proofs.Qxb6615813aFmt
open Go.ChangeShapes Go.WideShapes Go.ChangeAt Go.RowKit
open Go.Extern.Stop Go.Stop Go.Extern

theorem own : ownKnob Tryf.prog.godebug = none := by kernel_rfl
theorem laidOut : laidOutB Tryf.prog = true := by kernel_rfl
theorem laidOut7 : laidOutB Tryf.pinned.checked.prog = true := by kernel_rfl
theorem gType : (Tryf.prog.globals[0]?).map (·.type) = some 32 := by kernel_rfl
theorem gName : Tryf.prog.globalNamed ((Rows.fnParseKindAcceptsExactlyTheNamesRow.laid.map (·.1)).headD "") = some 0 := by kernel_rfl
theorem cells9 : Tryf.prog.cellsOf 9 = 1 := by kernel_rfl
theorem cells30 : Tryf.prog.cellsOf 30 = 1 := by kernel_rfl

/-- The door's own heap meets the condition: three closed facts. -/
theorem door_met (os : Os) (args : Array Value) : laidMetH Tryf.prog Rows.fnParseKindAcceptsExactlyTheNamesRow.laid ((World.doorLaid Tryf.prog 28 os).forCall (fun _ _ => 0) ⟨#[], args, []⟩).memory :=
  laidMetH_of_parts3 (fuel := 8) (laidMet_of_run' 8 (by kernel_rfl) (by kernel_rfl)) (by kernel_rfl) (by kernel_rfl)

theorem bytes_of {s t : ByteArray} (h : s.data.toList = t.data.toList) : s = t := ByteArray.ext (Array.toList_inj.1 h)

/-- WHAT THE CONDITION GIVES THE WALKS. -/
theorem of_laid {W : World} (h : laidMetH Tryf.prog Rows.fnParseKindAcceptsExactlyTheNamesRow.laid W) : ∃ b o c, Tab b o c W := by
  rw [MakeChecks.laidMetH_plain _ _ _ (by kernel_rfl)] at h
  obtain ⟨ps, ⟨g0, t0, cs0, f0, p0, q0, hg0, ht0, hv0, hd0, _, _⟩, _, _⟩ := h
  obtain rfl := Option.some.inj (gName.symm.trans hg0)
  obtain rfl := Option.some.inj (gType.symm.trans ht0)
  obtain ⟨y0, y1, n, hx, hlen, hy0, hy1⟩ := trod_struct2 Tryf.underlying32 hd0
  have cells32 : Tryf.prog.cellsOf 32 = 2 := by kernel_rfl
  rw [cells32] at hlen
  obtain ⟨l0⟩ := cs0
  match l0, hlen with
  | [c0, c1], _ =>
    have ty0 : DataW.trod (fun _ => ()) Tryf.prog W 0 (fun _ => true) false n 9 [c0] = some y0 := by
      have := hy0
      rw [show (Tryf.prog.cellsOf _) = 1 from cells9] at this
      exact this
    have ty1 : DataW.trod (fun _ => ()) Tryf.prog W 0 (fun _ => true) false n 30 [c1] = some y1 := by
      have := hy1
      rw [show (Tryf.prog.cellsOf _) = 1 from cells30] at this
      exact this
    simp only [Rows.laid_example_com_epistream_epistream_internal_limiter_kindNames, Prod.mk.injEq, DataW.agg.injEq, List.cons.injEq, and_true] at hx
    obtain ⟨⟨e0, e1⟩, _⟩ := hx
    obtain ⟨y1a, y1b⟩ := y1
    simp only at e1
    subst e1
    obtain ⟨s0, hs0, hx0, _⟩ := DataW.trod_string Tryf.underlying9 ty0
    obtain ⟨a, cap, hcs, hcap, hel⟩ := open_row Tryf.underlying30 cells9 ty1
    have hcapm : cap ≤ maxLen := by
      rcases DataW.trod_slice Tryf.underlying30 ty1 with ⟨hh, _⟩ | ⟨a', len', cap', _, _, _, _, hh, _, _, _, hm, _⟩
      · rw [hh] at hcs; simp at hcs
      · rw [hh] at hcs; simp at hcs; omega
    obtain ⟨b, o, sp⟩ := a
    obtain ⟨v0, n0, q0', hc0, ht0'⟩ := hel 0 _ rfl
    obtain ⟨v1, n1, q1', hc1, ht1'⟩ := hel 1 _ rfl
    obtain ⟨v2, n2, q2', hc2, ht2'⟩ := hel 2 _ rfl
    obtain rfl : sp = none := by simpa [Addr.add] using World.cell?_spot hc0
    obtain ⟨z0, g0, k0, _⟩ := DataW.trod_string Tryf.underlying9 ht0'
    obtain ⟨z1, g1, k1, _⟩ := DataW.trod_string Tryf.underlying9 ht1'
    obtain ⟨z2, g2, k2, _⟩ := DataW.trod_string Tryf.underlying9 ht2'
    simp only [List.cons.injEq, and_true] at hs0 hcs g0 g1 g2
    subst hs0 hcs g0 g1 g2
    have E0 : z0 = sOff := bytes_of (by simp at k0; exact k0.1.symm)
    have E1 : z1 = sToken := bytes_of (by simp at k1; exact k1.1.symm)
    have E2 : z2 = sLeaky := bytes_of (by simp at k2; exact k2.1.symm)
    have E3 : s0 = sLimiter := bytes_of (by rw [hx0] at e0; simp at e0; exact e0.symm)
    subst E0 E1 E2 E3
    have hg := World.var?_cell hg0 hv0
    have b0 : ∀ {x : Nat} {oo : Nat} {v : Value}, W.cell? ⟨x, oo, none⟩ = some v → x < W.heap.size := fun {x oo v} h => by
      rcases Nat.lt_or_ge x W.heap.size with h' | h'
      · exact h'
      · simp [World.cell?, Array.getElem?_eq_none h'] at h
    have G0 : W.cell? ⟨0, 0, none⟩ = some (.string sLimiter) := by simpa using hg 0
    have G1 : W.cell? ⟨0, 1, none⟩ = some (.slice (some ⟨b, o, none⟩) 3 cap) := by simpa using hg 1
    have C0 : W.cell? ⟨b, o, none⟩ = some (.string sOff) := by simpa [Addr.add] using hc0
    have C1 : W.cell? ⟨b, o + 1, none⟩ = some (.string sToken) := by simpa [Addr.add] using hc1
    have C2 : W.cell? ⟨b, o + 2, none⟩ = some (.string sLeaky) := by simpa [Addr.add] using hc2
    exact ⟨b, o, cap, G0, G1, C0, C1, C2, b0 C0, b0 G0, by simpa using hcap, hcapm⟩
end Go.Proofs.Qxb6615813aFmt
