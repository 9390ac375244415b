/-
  THE SEAT b6616117aD: the walk of the law 'FnStampIsMillisecondFloorAndIdempotent'. By an AI agent.
-/
import Derived.Test.Qxb6616117aDoorAt
import Derived.Deep.RegionWith
namespace Go.Proofs.Qxb6616117aDoor
open Go.RowKit

theorem below_then {w W V w4 : World} (h : Below w.heap.size w W) (k : Below V.heap.size V w4) (e1 : V.os = W.os) (e2 : V.tape = W.tape) (e3 : V.output = W.output) (e4 : V.heap = W.heap) : Below w.heap.size w w4 :=
  ⟨k.os.trans (e1.trans h.os), k.tape.trans (e2.trans h.tape), k.output.trans (e3.trans h.output), Nat.le_trans h.size (by rw [← e4]; exact k.size), fun i hi => (k.block i (by rw [e4]; have := h.size; omega)).trans (by rw [e4]; exact h.block i hi)⟩

/-- ZZstamp of a time on a whole millisecond. -/
theorem zz_fix (n s : Int) (w : World) (hn0 : 0 ≤ n) (hn1 : n < 1000000000) (hm : n % 1000000 = 0) (hs0 : -4398046511104 ≤ s) (hs1 : s ≤ 4398046511104) :
    Calls Tryd.prog 6 #[.agg #[.int .u64 n, .int .i64 s, .pointer none]] w fun e w' => e = .returned (.agg #[.int .u64 n, .int .i64 s, .pointer none]) ∧ Below w.heap.size w w' := by
  have h := zz_any n s w hn0 hn1 hs0 hs1
  rw [show n - n % 1000000 = n from by omega] at h
  exact h

set_option maxHeartbeats 1600000 in
theorem floor_main (sec n : Int) (w : World) (hs0 : -1099511627776 ≤ sec) (hs1 : sec ≤ 1099511627776) (hn0 : 0 ≤ n) (hn1 : n < 1000000000) :
    Calls Tryd.prog 3 #[.int .i64 sec, .int .i64 n] w fun e w' => e = .returned (.bool true) ∧ Below w.heap.size w w' := by
  obtain ⟨m, hm⟩ : ∃ m, n - n % 1000000 = m := ⟨_, rfl⟩
  have hm0 : 0 ≤ m := by omega
  have hm1 : m < 1000000000 := by omega
  have hm2 : m % 1000000 = 0 := by omega
  have HM : Hid (m % 1000000 = 0) := hm2
  have Z := Lib.hid (fun W => zz_any n sec W hn0 hn1 (by omega) (by omega))
  rw [hm] at Z
  clear hm2
  go_enter Tryd.func3, Tryd.ntmps3
  go_wp2_with fail
  refine (at_any sec n w hs0 hs1 hn0 hn1).mono ?_
  rintro e w1 ⟨rfl, hB1⟩
  go_wp2_with fail
  refine (at_any sec m _ hs0 hs1 hm0 hm1).mono ?_
  rintro e w2 ⟨rfl, hB2⟩
  have g5 := Holds3.later (w := w1.alloc (.cells #[.int .u64 n, .int .i64 sec, .pointer none] 25)) (b := w1.heap.size) (x0 := .int .u64 n) (x1 := .int .i64 sec) (x2 := .pointer none) ⟨by simp, by simp, by simp, by simp, by simp, by simp, by simp⟩ (by simp) hB2
  have hB12 : Below w.heap.size w w2 := (hB1.alloc hB1.size _).trans (hB2.mono (by have := hB1.size; simp; omega))
  obtain ⟨a0, a1, a2, _, _, _, za⟩ := g5
  clear hB1 hB2
  go_wp2_with fail
  refine (Z.out _).mono ?_
  rintro e w3 ⟨rfl, hB3⟩
  have g6 := Holds3.later (w := w2.alloc (.cells #[.int .u64 m, .int .i64 sec, .pointer none] 25)) (b := w2.heap.size) (x0 := .int .u64 m) (x1 := .int .i64 sec) (x2 := .pointer none) ⟨by simp, by simp, by simp, by simp, by simp, by simp, by simp⟩ (by simp) hB3
  have hB13 : Below w.heap.size w w3 := (hB12.alloc hB12.size _).trans (hB3.mono (by have := hB12.size; simp; omega))
  obtain ⟨b0, b1, b2, _, _, _, zb⟩ := g6
  clear hB3 a0 a1 a2 Z
  have k2 := eqT_same m sec
  go_wp2_with fail
  have G7 : Holds3 (w3.alloc (.cells #[.int .u64 m, .int .i64 sec, .pointer none] 25)) w3.heap.size (.int .u64 m) (.int .i64 sec) (.pointer none) := ⟨by simp, by simp, by simp, by simp, by simp, by simp, by simp⟩
  have G6 : Holds3 (w3.alloc (.cells #[.int .u64 m, .int .i64 sec, .pointer none] 25)) w2.heap.size (.int .u64 m) (.int .i64 sec) (.pointer none) := Holds3.later (B := w3.heap.size) ⟨b0, b1, b2, by assumption, by assumption, by assumption, zb⟩ zb ((Below.refl _ _).alloc (Nat.le_refl _) _)
  have HB : Hid (Below w.heap.size w (w3.alloc (.cells #[.int .u64 m, .int .i64 sec, .pointer none] 25))) := hB13.alloc hB13.size _
  generalize hp7 : w3.heap.size = p7 at *
  generalize hp6 : w2.heap.size = p6 at *
  generalize w3.alloc (.cells #[.int .u64 m, .int .i64 sec, .pointer none] 25) = W at *
  clear hB13 hB12 b0 b1 b2 zb za hm hp7 hp6
  obtain ⟨c0, c1, c2, _, _, _, z7⟩ := G7
  obtain ⟨d0, d1, d2, _, _, _, z6⟩ := G6
  go_region_with (go_at_call 6; refine (zz_fix m sec _ hm0 hm1 HM.out (by omega) (by omega)).mono ?_; rintro e w4 ⟨rfl, hB4⟩; have x0 : w4.cell? ⟨p7, 0, none⟩ = some (.int .u64 m) := (hB4.cell (p := ⟨p7, 0, none⟩) z7).trans c0; have x1 : w4.cell? ⟨p7, 1, none⟩ = some (.int .i64 sec) := (hB4.cell (p := ⟨p7, 1, none⟩) z7).trans c1; have x2 : w4.cell? ⟨p7, 2, none⟩ = some (.pointer none) := (hB4.cell (p := ⟨p7, 2, none⟩) z7).trans c2)
  all_goals
    go_wp2
    go_ret
    exact ⟨rfl, below_then HB.out hB4 rfl rfl rfl rfl⟩

set_option maxHeartbeats 800000 in
theorem floor_early (sec n : Int) (w : World) (h : sec < -1099511627776 ∨ 1099511627776 < sec ∨ n < 0 ∨ 1000000000 ≤ n) :
    Calls Tryd.prog 3 #[.int .i64 sec, .int .i64 n] w fun e w' => e = .returned (.bool true) ∧ Below w.heap.size w w' := by
  by_cases h1 : sec < -1099511627776
  · clear h
    go_enter Tryd.func3, Tryd.ntmps3
    go_wp2
    go_ret
    exact ⟨rfl, Below.refl _ _⟩
  · by_cases h2 : 1099511627776 < sec
    · clear h
      go_enter Tryd.func3, Tryd.ntmps3
      go_wp2
      go_ret
      exact ⟨rfl, Below.refl _ _⟩
    · by_cases h3 : n < 0
      · clear h
        go_enter Tryd.func3, Tryd.ntmps3
        go_wp2
        go_ret
        exact ⟨rfl, Below.refl _ _⟩
      · have h4 : 1000000000 ≤ n := by omega
        clear h
        go_enter Tryd.func3, Tryd.ntmps3
        go_wp2
        go_ret
        exact ⟨rfl, Below.refl _ _⟩

theorem floor_any (sec n : Int) (w : World) :
    Calls Tryd.prog 3 #[.int .i64 sec, .int .i64 n] w fun e w' => e = .returned (.bool true) ∧ Below w.heap.size w w' := by
  by_cases h : sec < -1099511627776 ∨ 1099511627776 < sec ∨ n < 0 ∨ 1000000000 ≤ n
  · exact floor_early sec n w h
  · exact floor_main sec n w (by omega) (by omega) (by omega) (by omega)
end Go.Proofs.Qxb6616117aDoor
