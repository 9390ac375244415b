/-
  THE SEAT b6616117aD: the walk of the law 'FnStampLatestMillisecondAndShiftInvariant'. By an AI agent.
-/
import Derived.Test.Qxb6616117aDoorCmp
import Derived.Test.Qxb6616117aDoorFloor
import Derived.Deep.RegionWith
import Derived.Deep.DeepCutAuto
namespace Go.Proofs.Qxb6616117aDoor
open Go.RowKit

/-- Moving by whole milliseconds: the sum of the floor is the floor of the sum. -/
theorem shift_facts (n m k sec : Int) (hn0 : 0 ≤ n) (hn1 : n < 1000000000) (hm2 : m % 1000000 = 0) (hmn : m ≤ n) (hnm : n < m + 1000000) (hs0 : -1099511627776 ≤ sec) (hs1 : sec ≤ 1099511627776) (hk0 : -4398046511104 ≤ k) (hk1 : k ≤ 4398046511104) :
    ∃ A C Q : Int, (m + k * 1000000) % 1000000000 = A ∧ (n + k * 1000000) % 1000000000 = C ∧ (sec + (n + k * 1000000) / 1000000000 = Q ∧ sec + (m + k * 1000000) / 1000000000 = Q) ∧ C - C % 1000000 = A ∧ 0 ≤ C ∧ C < 1000000000 ∧ 0 ≤ A ∧ A < 1000000000 ∧ -4398046511104 ≤ Q ∧ Q ≤ 4398046511104 := by
  refine ⟨_, _, _, rfl, rfl, ⟨rfl, ?_⟩, ?_, ?_, ?_, ?_, ?_, ?_, ?_⟩ <;> omega

theorem Holds3.laterV {w V w1 : World} {b : Nat} {x0 x1 x2 : Value} (h : Holds3 w b x0 x1 x2) (hB : Below V.heap.size V w1) (e : V.heap = w.heap) : Holds3 w1 b x0 x1 x2 := by
  have h' : Holds3 V b x0 x1 x2 := by
    obtain ⟨h0, h1, h2, f0, f1, f2, z⟩ := h
    refine ⟨?_, ?_, ?_, ?_, ?_, ?_, by rw [e]; exact z⟩
    · simpa [World.cell?, e] using h0
    · simpa [World.cell?, e] using h1
    · simpa [World.cell?, e] using h2
    · simpa [World.frozen?, e] using f0
    · simpa [World.frozen?, e] using f1
    · simpa [World.frozen?, e] using f2
  exact h'.later h'.2.2.2.2.2.2 hB

set_option maxHeartbeats 1600000 in
theorem latest_main (sec n k : Int) (w : World) (hs0 : -1099511627776 ≤ sec) (hs1 : sec ≤ 1099511627776) (hn0 : 0 ≤ n) (hn1 : n < 1000000000) (hk0 : -4398046511104 ≤ k) (hk1 : k ≤ 4398046511104) :
    Calls Tryd.prog 4 #[.int .i64 sec, .int .i64 n, .int .i64 k] w fun e w' => e = .returned (.bool true) ∧ Below w.heap.size w w' := by
  obtain ⟨m, hm⟩ : ∃ m, n - n % 1000000 = m := ⟨_, rfl⟩
  have hm0 : 0 ≤ m := by omega
  have hm1 : m < 1000000000 := by omega
  have hm2 : m % 1000000 = 0 := by omega
  have Z := Lib.hid (fun W => zz_any n sec W hn0 hn1 (by omega) (by omega))
  rw [hm] at Z
  go_enter Tryd.func4, Tryd.ntmps4
  go_wp2_with fail
  refine (at_any sec n w hs0 hs1 hn0 hn1).mono ?_
  rintro e w1 ⟨rfl, hB1⟩
  go_wp2_with fail
  refine (Z.out _).mono ?_
  rintro e w2 ⟨rfl, hB2⟩
  have g7 := Holds3.later (w := w1.alloc (.cells #[.int .u64 n, .int .i64 sec, .pointer none] 25)) (b := w1.heap.size) (x0 := .int .u64 n) (x1 := .int .i64 sec) (x2 := .pointer none) ⟨by simp, by simp, by simp, by simp, by simp, by simp, by simp⟩ (by simp) hB2
  have hB12 : Below w.heap.size w w2 := (hB1.alloc hB1.size _).trans (hB2.mono (by have := hB1.size; simp; omega))
  clear hB1 hB2 Z
  go_wp2_with fail
  refine (nano_any m sec _ hm0 hm1).mono ?_
  rintro e w3 ⟨rfl, hB3⟩
  have hmn : m ≤ n := by omega
  have hnm : n < m + 1000000 := by omega
  have H7 : Hid (Holds3 w3 w1.heap.size (.int .u64 n) (.int .i64 sec) (.pointer none)) := Holds3.later (g7.later g7.2.2.2.2.2.2 ((Below.refl _ _).alloc (Nat.le_refl _) (.cells #[.int .u64 m, .int .i64 sec, .pointer none] 25))) (by have := g7.2.2.2.2.2.2; simp; omega) hB3
  have H9 : Hid (Holds3 w3 w2.heap.size (.int .u64 m) (.int .i64 sec) (.pointer none)) := Holds3.later (w := w2.alloc (.cells #[.int .u64 m, .int .i64 sec, .pointer none] 25)) ⟨by simp, by simp, by simp, by simp, by simp, by simp, by simp⟩ (by simp) hB3
  have HB : Hid (Below w.heap.size w w3) := (hB12.alloc hB12.size _).trans (hB3.mono (by have := hB12.size; simp; omega))
  obtain ⟨A, C, Q, hA, hC, hQ, hCm, hC0, hC1, hA0, hA1, hQ0, hQ1⟩ := shift_facts n m k sec hn0 hn1 hm2 hmn hnm hs0 hs1 hk0 hk1
  have KA1 := Lib.hid (fun W => add_any n sec (k * 1000000) W hn0 hn1 (by omega) (by omega) (by omega) (by omega))
  have KA2 := Lib.hid (fun W => add_any m sec (k * 1000000) W hm0 hm1 (by omega) (by omega) (by omega) (by omega))
  have KZ := Lib.hid (fun W => zz_any C Q W hC0 hC1 (by omega) (by omega))
  rw [hC, hQ.1] at KA1
  rw [hA, hQ.2] at KA2
  rw [hCm] at KZ
  have KE := eqT_same A Q
  unfold T at KA1 KA2
  clear hA hC hQ hCm hC0 hC1 hA0 hA1 hQ0 hQ1
  clear g7 hB12 hB3
  generalize w1.heap.size = p7 at *
  generalize w2.heap.size = p9 at *
  clear hm
  go_upto_region 11 with fail
  go_cut [11] (fun v wx => v = .bool true ∧ Hid (Holds3 wx p7 (.int .u64 n) (.int .i64 sec) (.pointer none)) ∧ Hid (Holds3 wx p9 (.int .u64 m) (.int .i64 sec) (.pointer none)) ∧ Hid (Below w.heap.size w wx))
  case first =>
    obtain ⟨c0, c1, c2, _, _, _, z7⟩ := H7.out
    obtain ⟨d0, d1, d2, _, _, _, z9⟩ := H9.out
    go_region_with (first
      | (go_at_call 8; refine (after_no m n sec _ hm0 hn1 hmn).mono ?_; rintro e w4 ⟨rfl, hB4⟩; have G7 := Lib.hid (H7.out.laterV hB4 rfl); have G9 := Lib.hid (H9.out.laterV hB4 rfl); obtain ⟨x0, x1, x2, _, _, _, y7⟩ := G7.out; obtain ⟨x3, x4, x5, _, _, _, y9⟩ := G9.out)
      | (go_at_call 10; refine (add_any m sec 1000000 _ hm0 hm1 (by omega) (by omega) (by omega) (by omega)).mono ?_; rintro e w5 ⟨rfl, hB5⟩; have K7 := Lib.hid (G7.out.laterV hB5 rfl); have K9 := Lib.hid (G9.out.laterV hB5 rfl); obtain ⟨x6, x7, x8, _, _, _, v7⟩ := K7.out)
      | (go_at_call 9; refine (before_any n sec ((m + 1000000) % 1000000000) (sec + (m + 1000000) / 1000000000) _ hn0 hn1 (by omega) (by omega) (by omega)).mono ?_; rintro e w6 ⟨rfl, hB6⟩; have L7 := Lib.hid (K7.out.laterV hB6 rfl); have L9 := Lib.hid (K9.out.laterV hB6 rfl)))
    all_goals
      go_wp2_with fail
      go_meet
      case rel => exact ⟨rfl, L7, L9, below_then (below_then (below_then HB.out hB4 rfl rfl rfl rfl) hB5 rfl rfl rfl rfl) hB6 rfl rfl rfl rfl⟩
  case rest =>
    obtain ⟨rfl, R7, R9, RB⟩ := hcut
    clear H7 H9 HB
    obtain ⟨c0, c1, c2, _, _, _, z7⟩ := R7.out
    obtain ⟨d0, d1, d2, _, _, _, z9⟩ := R9.out
    go_wp2_with fail
    go_region_with (first
      | (go_at_call_of 10 (Value.agg #[Value.int IntKind.u64 n, Value.int IntKind.i64 sec, Value.pointer none]); refine (KA1.out _).mono ?_; rintro e w4 ⟨rfl, hB4⟩; have Q4 : Hid (Below w.heap.size w w4) := by { first | exact below_then RB.out hB4 rfl rfl rfl rfl | exact below_then Q6.out hB4 rfl rfl rfl rfl }; have P4 : Hid (Holds3 w4 p9 (.int .u64 m) (.int .i64 sec) (.pointer none)) := by { first | exact R9.out.laterV hB4 rfl | exact P6.out.laterV hB4 rfl }; obtain ⟨x0, x1, x2, _, _, _, y9⟩ := P4.out)
      | (go_at_call 6; refine (KZ.out _).mono ?_; rintro e w5 ⟨rfl, hB5⟩; have Q5 : Hid (Below w.heap.size w w5) := by { first | exact below_then Q4.out hB5 rfl rfl rfl rfl | exact below_then Q6.out hB5 rfl rfl rfl rfl }; have P5 : Hid (Holds3 w5 p9 (.int .u64 m) (.int .i64 sec) (.pointer none)) := by { first | exact P4.out.laterV hB5 rfl | exact P6.out.laterV hB5 rfl }; obtain ⟨x3, x4, x5, _, _, _, y5⟩ := P5.out)
      | (go_at_call_of 10 (Value.agg #[Value.int IntKind.u64 m, Value.int IntKind.i64 sec, Value.pointer none]); refine (KA2.out _).mono ?_; rintro e w6 ⟨rfl, hB6⟩; have Q6 : Hid (Below w.heap.size w w6) := by { first | exact below_then RB.out hB6 rfl rfl rfl rfl | exact below_then Q4.out hB6 rfl rfl rfl rfl | exact below_then Q5.out hB6 rfl rfl rfl rfl }; have P6 : Hid (Holds3 w6 p9 (.int .u64 m) (.int .i64 sec) (.pointer none)) := by { first | exact R9.out.laterV hB6 rfl | exact P4.out.laterV hB6 rfl | exact P5.out.laterV hB6 rfl }; have P7 : Hid (Holds3 w6 p7 (.int .u64 n) (.int .i64 sec) (.pointer none)) := by { first | exact R7.out.laterV hB6 rfl | (exact (Holds3.laterV (R7.out.laterV hB4 rfl) hB6 rfl)) | (exact (Holds3.laterV (Holds3.laterV (R7.out.laterV hB4 rfl) hB5 rfl) hB6 rfl)) }; obtain ⟨x6, x7, x8, _, _, _, y6⟩ := P7.out))
    all_goals
      go_wp2
      go_ret
      exact ⟨rfl, Q6.out⟩

set_option maxHeartbeats 800000 in
theorem latest_early (sec n k : Int) (w : World) (h : sec < -1099511627776 ∨ 1099511627776 < sec ∨ n < 0 ∨ 1000000000 ≤ n ∨ k < -4398046511104 ∨ 4398046511104 < k) :
    Calls Tryd.prog 4 #[.int .i64 sec, .int .i64 n, .int .i64 k] w fun e w' => e = .returned (.bool true) ∧ Below w.heap.size w w' := by
  by_cases h1 : sec < -1099511627776
  · clear h
    go_enter Tryd.func4, Tryd.ntmps4
    go_wp2
    go_ret
    exact ⟨rfl, Below.refl _ _⟩
  by_cases h2 : 1099511627776 < sec
  · clear h
    go_enter Tryd.func4, Tryd.ntmps4
    go_wp2
    go_ret
    exact ⟨rfl, Below.refl _ _⟩
  by_cases h3 : n < 0
  · clear h
    go_enter Tryd.func4, Tryd.ntmps4
    go_wp2
    go_ret
    exact ⟨rfl, Below.refl _ _⟩
  by_cases h4 : 1000000000 ≤ n
  · clear h
    go_enter Tryd.func4, Tryd.ntmps4
    go_wp2
    go_ret
    exact ⟨rfl, Below.refl _ _⟩
  by_cases h5 : k < -4398046511104
  · clear h
    go_enter Tryd.func4, Tryd.ntmps4
    go_wp2
    go_ret
    exact ⟨rfl, Below.refl _ _⟩
  · have h6 : 4398046511104 < k := by omega
    clear h
    go_enter Tryd.func4, Tryd.ntmps4
    go_wp2
    go_ret
    exact ⟨rfl, Below.refl _ _⟩

theorem latest_any (sec n k : Int) (w : World) :
    Calls Tryd.prog 4 #[.int .i64 sec, .int .i64 n, .int .i64 k] w fun e w' => e = .returned (.bool true) ∧ Below w.heap.size w w' := by
  by_cases h : sec < -1099511627776 ∨ 1099511627776 < sec ∨ n < 0 ∨ 1000000000 ≤ n ∨ k < -4398046511104 ∨ 4398046511104 < k
  · exact latest_early sec n k w h
  · exact latest_main sec n k w (by omega) (by omega) (by omega) (by omega) (by omega) (by omega)
end Go.Proofs.Qxb6616117aDoor
