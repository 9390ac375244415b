/-
  THE SEAT b6616117aD: the walk of zzStampAt. By an AI agent.
-/
import Derived.Test.Qxb6616117aDoorDiv
import Derived.Lib.Hide
namespace Go.Proofs.Qxb6616117aDoor
open Go.RowKit

/-- A Time stored into its block. -/
def put3 (w : World) (b : Nat) (y0 y1 y2 : Value) : World := ((w.setCell ⟨b, 0, none⟩ y0).setCell ⟨b, 1, none⟩ y1).setCell ⟨b, 2, none⟩ y2

theorem Holds3.put {w : World} {b : Nat} {x0 x1 x2 : Value} (h : Holds3 w b x0 x1 x2) (y0 y1 y2 : Value) : Holds3 (put3 w b y0 y1 y2) b y0 y1 y2 := by
  obtain ⟨h0, h1, h2, f0, f1, f2, z⟩ := h
  unfold put3
  refine ⟨?_, ?_, ?_, ?_, ?_, ?_, ?_⟩ <;> simp [go_sem, h0, h1, h2, f0, f1, f2, z]

theorem below_put3 {B : Nat} {a w : World} (h : Below B a w) {b : Nat} (hb : B ≤ b) (y0 y1 y2 : Value) : Below B a (put3 w b y0 y1 y2) :=
  ((h.setCell (p := ⟨b, 0, none⟩) hb y0).setCell (p := ⟨b, 1, none⟩) hb y1).setCell (p := ⟨b, 2, none⟩) hb y2

theorem Holds3.aside {w : World} {b c : Nat} {x0 x1 x2 : Value} (h : Holds3 w c x0 x1 x2) (hc : c < b) (y0 y1 y2 : Value) : Holds3 (put3 w b y0 y1 y2) c x0 x1 x2 :=
  h.later hc (below_put3 (Below.refl b w) (Nat.le_refl _) y0 y1 y2)

/-- Time.Add of whole seconds. -/
theorem add_secs (n s k D : Int) (w : World) (hD : D = k * 1000000000) (hn0 : 0 ≤ n) (hn1 : n < 1000000000) (hs0 : -4398046511104 ≤ s) (hs1 : s ≤ 4398046511104) (hk0 : -4294967296 ≤ k) (hk1 : k ≤ 4294967296) :
    Calls Tryd.prog 10 #[.agg #[.int .u64 n, .int .i64 s, .pointer none], .int .i64 D] w fun e w' => e = .returned (.agg #[.int .u64 n, .int .i64 (s + k), .pointer none]) ∧ Below w.heap.size w w' := by
  have key := add_any n s D w hn0 hn1 hs0 hs1 (by omega) (by omega)
  rw [show (n + D) % 1000000000 = n from by omega, show s + (n + D) / 1000000000 = s + k from by omega] at key
  exact key

theorem rel1 {w : World} {b : Nat} {n x y : Int} {x0 x1 x2 : Value} (h : Holds3 w b x0 x1 x2) (e : x = y) : Holds3 (put3 w b (.int .u64 n) (.int .i64 x) (.pointer none)) b (.int .u64 n) (.int .i64 y) (.pointer none) := by
  rw [← e]; exact h.put _ _ _

set_option maxHeartbeats 800000 in
/-- zzStampAt. -/
theorem at_any (sec n : Int) (w : World) (hs0 : -1099511627776 ≤ sec) (hs1 : sec ≤ 1099511627776) (hn0 : 0 ≤ n) (hn1 : n < 1000000000) :
    Calls Tryd.prog 5 #[.int .i64 sec, .int .i64 n] w fun e w' => e = .returned (.agg #[.int .u64 n, .int .i64 sec, .pointer none]) ∧ Below w.heap.size w w' := by
  have A := add_any 0 0 n (w.alloc (.cells #[.int .u64 0, .int .i64 0, .pointer none] 25)) (by omega) (by omega) (by omega) (by omega) (by omega) (by omega)
  rw [show (0 + n) % 1000000000 = n from by omega, show (0 : Int) + (0 + n) / 1000000000 = 0 from by omega] at A
  have A' := Lib.hid A
  clear A
  go_enter Tryd.func5, Tryd.ntmps5
  go_wp2_with fail
  refine A'.out.mono ?_
  rintro e w1 ⟨rfl, hB1⟩
  have gB := Holds3.later (w := w.alloc (.cells #[.int .u64 0, .int .i64 0, .pointer none] 25)) (b := w.heap.size) (x0 := .int .u64 0) (x1 := .int .i64 0) (x2 := .pointer none) ⟨by simp, by simp, by simp, by simp, by simp, by simp, by simp⟩ (by simp) hB1
  have hB : Below w.heap.size w w1 := ((Below.refl _ _).alloc (Nat.le_refl _) _).trans (hB1.mono (by simp))
  have hz1 : w.heap.size < w1.heap.size := gB.2.2.2.2.2.2
  clear hB1 A'
  unfold T
  go_wp2_with fail
  have g1 : Holds3 (w1.alloc (.cells #[.int .u64 n, .int .i64 0, .pointer none] 25)) w1.heap.size (.int .u64 n) (.int .i64 0) (.pointer none) := ⟨by simp, by simp, by simp, by simp, by simp, by simp, by simp⟩
  have gB1 := gB.later hz1 ((Below.refl _ _).alloc (Nat.le_refl _) (.cells #[.int .u64 n, .int .i64 0, .pointer none] 25))
  have hB2 : Below w.heap.size w (w1.alloc (.cells #[.int .u64 n, .int .i64 0, .pointer none] 25)) := hB.alloc (by omega) _
  clear gB hB
  go_loopw [0] (fun v wr => ∃ r : Int, v = .int .i64 r ∧ -1099511627776 ≤ r ∧ r ≤ 1099511627776 ∧ Hid (Holds3 wr w1.heap.size (.int .u64 n) (.int .i64 (sec - r)) (.pointer none)) ∧ Hid (Holds3 wr w.heap.size (.int .u64 0) (.int .i64 0) (.pointer none)) ∧ Hid (Below w.heap.size w wr))
    (fun v _ => (intOf v).natAbs)
  case atStart => exact ⟨sec, rfl, hs0, hs1, by rw [Int.sub_self]; exact g1, gB1, hB2⟩
  case round =>
    clear g1 gB1 hB2
    obtain ⟨r, rfl, hr0, hr1, H1, H0, HB⟩ := hrel
    obtain ⟨c0, c1, c2, f0, f1, f2, z1⟩ := H1.out
    by_cases h0 : r = 0
    · subst h0
      obtain ⟨d0, d1, d2, e0, e1, e2, z0⟩ := H0.out
      rw [Int.sub_zero] at c1
      go_wp2
      exact bodyPost_ret (v := .agg #[.int .u64 n, .int .i64 sec, .pointer none]) (by simp [results, Tryd.results5, go_sem, d0, d1, d2]) rfl ⟨rfl, below_put3 HB.out (Nat.le_refl _) _ _ _⟩
    · have hne : (r != 0) = true := by simpa using h0
      have z0 : w.heap.size < wr.heap.size := by omega
      by_cases h1 : 4294967296 < r
      · go_wp2_with fail
        refine (add_secs n (sec - r) (4294967296) (4294967296000000000) wr (by omega) hn0 hn1 (by omega) (by omega) (by omega) (by omega)).mono ?_
        rintro e w2 ⟨rfl, hB2⟩
        have G1 := Lib.hid (H1.out.later z1 hB2)
        have G0 := Lib.hid (H0.out.later z0 hB2)
        have GB := Lib.hid (HB.out.trans (hB2.mono HB.out.size))
        obtain ⟨d0, d1, d2, e0, e1, e2, z2⟩ := G1.out
        clear c0 c1 c2 f0 f1 f2 z1 hB2
        go_wp2
        go_roundw
        case rel => exact ⟨r - 4294967296, by go_num, by omega, by omega, rel1 G1.out (by omega), G0.out.aside hz1 _ _ _, below_put3 GB.out (Nat.le_of_lt hz1) _ _ _⟩
        case measure => simp [intOf]; omega
      · by_cases h2 : r < -4294967296
        · go_wp2_with fail
          refine (add_secs n (sec - r) (-4294967296) (-4294967296000000000) wr (by omega) hn0 hn1 (by omega) (by omega) (by omega) (by omega)).mono ?_
          rintro e w2 ⟨rfl, hB2⟩
          have G1 := Lib.hid (H1.out.later z1 hB2)
          have G0 := Lib.hid (H0.out.later z0 hB2)
          have GB := Lib.hid (HB.out.trans (hB2.mono HB.out.size))
          obtain ⟨d0, d1, d2, e0, e1, e2, z2⟩ := G1.out
          clear c0 c1 c2 f0 f1 f2 z1 hB2
          go_wp2
          go_roundw
          case rel => exact ⟨r + 4294967296, by go_num, by omega, by omega, rel1 G1.out (by omega), G0.out.aside hz1 _ _ _, below_put3 GB.out (Nat.le_of_lt hz1) _ _ _⟩
          case measure => simp [intOf]; omega
        · go_wp2_with fail
          refine (add_secs n (sec - r) (r) (r * 1000000000) wr (by omega) hn0 hn1 (by omega) (by omega) (by omega) (by omega)).mono ?_
          rintro e w2 ⟨rfl, hB2⟩
          have G1 := Lib.hid (H1.out.later z1 hB2)
          have G0 := Lib.hid (H0.out.later z0 hB2)
          have GB := Lib.hid (HB.out.trans (hB2.mono HB.out.size))
          obtain ⟨d0, d1, d2, e0, e1, e2, z2⟩ := G1.out
          clear c0 c1 c2 f0 f1 f2 z1 hB2
          go_wp2
          go_roundw
          case rel => exact ⟨0, by go_num, by omega, by omega, rel1 G1.out (by omega), G0.out.aside hz1 _ _ _, below_put3 GB.out (Nat.le_of_lt hz1) _ _ _⟩
          case measure => simp [intOf]; omega
end Go.Proofs.Qxb6616117aDoor
