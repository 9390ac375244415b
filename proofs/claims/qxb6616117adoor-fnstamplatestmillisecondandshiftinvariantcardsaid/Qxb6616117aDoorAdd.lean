/-
  THE SEAT b6616117aD: the walks of Time.addSec and Time.Add at a Time without a monotonic reading. By an AI agent.
-/
import Derived.Test.Qxb6616117aDoorProg
import Derived.Test.Qxb6616117aDoorBits
import Derived.WalkKit
import Derived.WalkSpells
namespace Go.Proofs.Qxb6616117aDoor
open Go.RowKit

/-- A Time without a monotonic reading, in UTC: n nanoseconds, s seconds since year 1. -/
def T (n s : Int) : Value := .agg #[.int .u64 n, .int .i64 s, .pointer none]

set_option maxHeartbeats 800000 in
theorem addSec_any (b : Nat) (n s q : Int) (w : World) (hn0 : 0 ≤ n) (hn1 : n < 1000000000) (hs0 : -4398046511104 ≤ s) (hs1 : s ≤ 4398046511104) (hq0 : -9223372038 ≤ q) (hq1 : q ≤ 9223372038)
    (c0 : w.cell? ⟨b, 0, none⟩ = some (.int .u64 n)) (c1 : w.cell? ⟨b, 1, none⟩ = some (.int .i64 s)) (f1 : w.frozen? ⟨b, 1, none⟩ = false) :
    Calls Tryd.prog 15 #[.pointer (some ⟨b, 0, none⟩), .int .i64 q] w fun e w' => e = .returned (.tuple #[]) ∧ w' = w.setCell ⟨b, 1, none⟩ (.int .i64 (s + q)) := by
  have b4 := and_mono n hn0 (by omega)
  have he : (decide (s < s + q) == decide (0 < q)) = true := by
    by_cases h : 0 < q
    · rw [decide_eq_true (show s < s + q by omega), decide_eq_true h]; rfl
    · rw [decide_eq_false (show ¬ s < s + q by omega), decide_eq_false h]; rfl
  go_enter Tryd.func15, Tryd.ntmps15
  go_wp2
  go_end0
  exact ⟨rfl, rfl⟩

set_option maxHeartbeats 800000 in
theorem add_mid (n s d q r : Int) (w : World) (hq : d.tdiv 1000000000 = q) (hr : d.tmod 1000000000 = r) (hn0 : 0 ≤ n) (hn1 : n < 1000000000) (hr0 : 0 ≤ n + r) (hr1 : n + r < 1000000000) (hs0 : -4398046511104 ≤ s) (hs1 : s ≤ 4398046511104) (hq0 : -9223372037 ≤ q) (hq1 : q ≤ 9223372037) :
    Calls Tryd.prog 10 #[.agg #[.int .u64 n, .int .i64 s, .pointer none], .int .i64 d] w fun e w' => e = .returned (T (n + r) (s + q)) ∧ Below w.heap.size w w' := by
  have b1 := and_low n hn0 (by omega)
  have b2 := andNot_low n hn0 (by omega)
  have b3 := or_zero (n + r) (by omega) (by omega)
  have b4 := and_mono (n + r) (by omega) (by omega)
  go_enter Tryd.func10, Tryd.ntmps10
  go_wp2_with (first | (go_at_call 13; go_in))
  refine (addSec_any w.heap.size (n + r) s (q) _ (by omega) (by omega) hs0 hs1 (by omega) (by omega) (by simp) (by simp) (by simp)).mono ?_
  rintro e w1 ⟨rfl, rfl⟩
  go_wp2
  exact bodyPost_ret (v := T (n + r) (s + q)) (by simp [T, results, Tryd.results10, go_sem]) rfl ⟨rfl, ((Below.refl _ _).alloc (Nat.le_refl _) _).alloc (by simp) _⟩

set_option maxHeartbeats 800000 in
theorem add_high (n s d q r : Int) (w : World) (hq : d.tdiv 1000000000 = q) (hr : d.tmod 1000000000 = r) (hn0 : 0 ≤ n) (hn1 : n < 1000000000) (hr0 : 1000000000 ≤ n + r) (hr1 : r < 1000000000) (hs0 : -4398046511104 ≤ s) (hs1 : s ≤ 4398046511104) (hq0 : -9223372037 ≤ q) (hq1 : q ≤ 9223372037) :
    Calls Tryd.prog 10 #[.agg #[.int .u64 n, .int .i64 s, .pointer none], .int .i64 d] w fun e w' => e = .returned (T (n + r - 1000000000) (s + (q + 1))) ∧ Below w.heap.size w w' := by
  have b1 := and_low n hn0 (by omega)
  have b2 := andNot_low n hn0 (by omega)
  have b3 := or_zero (n + r - 1000000000) (by omega) (by omega)
  have b4 := and_mono (n + r - 1000000000) (by omega) (by omega)
  go_enter Tryd.func10, Tryd.ntmps10
  go_wp2_with (first | (go_at_call 13; go_in))
  refine (addSec_any w.heap.size (n + r - 1000000000) s (q + 1) _ (by omega) (by omega) hs0 hs1 (by omega) (by omega) (by simp) (by simp) (by simp)).mono ?_
  rintro e w1 ⟨rfl, rfl⟩
  go_wp2
  exact bodyPost_ret (v := T (n + r - 1000000000) (s + (q + 1))) (by simp [T, results, Tryd.results10, go_sem]) rfl ⟨rfl, ((Below.refl _ _).alloc (Nat.le_refl _) _).alloc (by simp) _⟩

set_option maxHeartbeats 800000 in
theorem add_low (n s d q r : Int) (w : World) (hq : d.tdiv 1000000000 = q) (hr : d.tmod 1000000000 = r) (hn0 : 0 ≤ n) (hn1 : n < 1000000000) (hr0 : n + r < 0) (hr1 : -1000000000 < r) (hs0 : -4398046511104 ≤ s) (hs1 : s ≤ 4398046511104) (hq0 : -9223372037 ≤ q) (hq1 : q ≤ 9223372037) :
    Calls Tryd.prog 10 #[.agg #[.int .u64 n, .int .i64 s, .pointer none], .int .i64 d] w fun e w' => e = .returned (T (n + r + 1000000000) (s + (q - 1))) ∧ Below w.heap.size w w' := by
  have b1 := and_low n hn0 (by omega)
  have b2 := andNot_low n hn0 (by omega)
  have b3 := or_zero (n + r + 1000000000) (by omega) (by omega)
  have b4 := and_mono (n + r + 1000000000) (by omega) (by omega)
  go_enter Tryd.func10, Tryd.ntmps10
  go_wp2_with (first | (go_at_call 13; go_in))
  refine (addSec_any w.heap.size (n + r + 1000000000) s (q - 1) _ (by omega) (by omega) hs0 hs1 (by omega) (by omega) (by simp) (by simp) (by simp)).mono ?_
  rintro e w1 ⟨rfl, rfl⟩
  go_wp2
  exact bodyPost_ret (v := T (n + r + 1000000000) (s + (q - 1))) (by simp [T, results, Tryd.results10, go_sem]) rfl ⟨rfl, ((Below.refl _ _).alloc (Nat.le_refl _) _).alloc (by simp) _⟩

/-- Time.Add: the sum of nanoseconds, carried into the seconds. -/
theorem add_any (n s d : Int) (w : World) (hn0 : 0 ≤ n) (hn1 : n < 1000000000) (hs0 : -4398046511104 ≤ s) (hs1 : s ≤ 4398046511104) (hd0 : -9223372036854775808 ≤ d) (hd1 : d ≤ 9223372036854775807) :
    Calls Tryd.prog 10 #[.agg #[.int .u64 n, .int .i64 s, .pointer none], .int .i64 d] w fun e w' => e = .returned (T ((n + d) % 1000000000) (s + (n + d) / 1000000000)) ∧ Below w.heap.size w w' := by
  obtain ⟨q, r, hq, hr, hd, hr0, hr1⟩ := tdiv_parts d
  by_cases h1 : 1000000000 ≤ n + r
  · have e1 : (n + d) % 1000000000 = n + r - 1000000000 := by omega
    have e2 : s + (n + d) / 1000000000 = s + (q + 1) := by omega
    rw [e1, e2]
    exact add_high n s d q r w hq hr hn0 hn1 h1 hr1 hs0 hs1 (by omega) (by omega)
  · by_cases h2 : n + r < 0
    · have e1 : (n + d) % 1000000000 = n + r + 1000000000 := by omega
      have e2 : s + (n + d) / 1000000000 = s + (q - 1) := by omega
      rw [e1, e2]
      exact add_low n s d q r w hq hr hn0 hn1 h2 hr0 hs0 hs1 (by omega) (by omega)
    · have e1 : (n + d) % 1000000000 = n + r := by omega
      have e2 : s + (n + d) / 1000000000 = s + q := by omega
      rw [e1, e2]
      exact add_mid n s d q r w hq hr hn0 hn1 (by omega) (by omega) hs0 hs1 (by omega) (by omega)

/-- A block of three cells in this world: what a load or a store of a Time there wants. -/
def Holds3 (w : World) (b : Nat) (x0 x1 x2 : Value) : Prop :=
  w.cell? ⟨b, 0, none⟩ = some x0 ∧ w.cell? ⟨b, 1, none⟩ = some x1 ∧ w.cell? ⟨b, 2, none⟩ = some x2 ∧ w.frozen? ⟨b, 0, none⟩ = false ∧ w.frozen? ⟨b, 1, none⟩ = false ∧ w.frozen? ⟨b, 2, none⟩ = false ∧ b < w.heap.size

/-- .. and in a later one. -/
theorem Holds3.later {w w1 : World} {b B : Nat} {x0 x1 x2 : Value} (h : Holds3 w b x0 x1 x2) (hb : b < B) (hB : Below B w w1) : Holds3 w1 b x0 x1 x2 := by
  obtain ⟨h0, h1, h2, f0, f1, f2, z⟩ := h
  have hz := hB.size
  refine ⟨?_, ?_, ?_, ?_, ?_, ?_, by omega⟩
  · rw [hB.cell (p := ⟨b, 0, none⟩) hb]; exact h0
  · rw [hB.cell (p := ⟨b, 1, none⟩) hb]; exact h1
  · rw [hB.cell (p := ⟨b, 2, none⟩) hb]; exact h2
  · rw [hB.frozen (p := ⟨b, 0, none⟩) hb]; exact f0
  · rw [hB.frozen (p := ⟨b, 1, none⟩) hb]; exact f1
  · rw [hB.frozen (p := ⟨b, 2, none⟩) hb]; exact f2
end Go.Proofs.Qxb6616117aDoor
