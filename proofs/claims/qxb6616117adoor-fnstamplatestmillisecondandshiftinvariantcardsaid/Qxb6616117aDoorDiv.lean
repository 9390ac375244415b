/-
  THE SEAT b6616117aD: the walks of time.div at a millisecond, Time.UTC, Time.Truncate, stamp, ZZstamp; '==' of Times. By an AI agent.
-/
import Derived.Test.Qxb6616117aDoorAdd
import Derived.LaidEqlPtr
import Derived.WalkLawsBesides
import Derived.Laws.StructEq
namespace Go.Proofs.Qxb6616117aDoor
open Go.RowKit

set_option maxHeartbeats 800000 in
theorem div_pos (n s : Int) (w : World) (hn0 : 0 ≤ n) (hn1 : n < 1000000000) (hs0 : 0 ≤ s) (hs1 : s ≤ 4398046511104) :
    Calls Tryd.prog 20 #[.agg #[.int .u64 n, .int .i64 s, .pointer none], .int .i64 1000000] w fun e w' => ∃ m : Int, e = .returned (.tuple #[.int .i64 m, .int .i64 (n % 1000000)]) ∧ Below w.heap.size w w' := by
  have b1 := and_low n hn0 (by omega)
  have b4 := and_mono n hn0 (by omega)
  go_enter Tryd.func20, Tryd.ntmps20
  go_wp2
  go_ret2
  exact ⟨_, rfl, (Below.refl _ _).alloc (Nat.le_refl _) _⟩

theorem ret_pair {m x y : Int} (h : x = y) : Ending.returned (.tuple #[.int .i64 m, .int .i64 x]) = .returned (.tuple #[.int .i64 m, .int .i64 y]) := by rw [h]

set_option maxHeartbeats 800000 in
theorem div_neg (n s : Int) (w : World) (hn0 : 0 < n) (hn1 : n < 1000000000) (hs0 : -4398046511104 ≤ s) (hs1 : s < 0) :
    Calls Tryd.prog 20 #[.agg #[.int .u64 n, .int .i64 s, .pointer none], .int .i64 1000000] w fun e w' => ∃ m : Int, e = .returned (.tuple #[.int .i64 m, .int .i64 (n % 1000000)]) ∧ Below w.heap.size w w' := by
  have b1 := and_low n (by omega) (by omega)
  have b4 := and_mono n (by omega) (by omega)
  by_cases h : (-n + 1000000000) % 1000000 = 0
  · have h1 : ((-n + 1000000000) % 1000000 != 0) = false := by simpa using h
    have e : (-n + 1000000000) % 1000000 = n % 1000000 := by omega
    have E : Hid ((-n + 1000000000) % 1000000 = n % 1000000) := e
    clear h e
    go_enter Tryd.func20, Tryd.ntmps20
    go_wp2
    go_ret2
    exact ⟨_, ret_pair E.out, (Below.refl _ _).alloc (Nat.le_refl _) _⟩
  · have h1 : ((-n + 1000000000) % 1000000 != 0) = true := by simpa using h
    have e : 1000000 - (-n + 1000000000) % 1000000 = n % 1000000 := by omega
    have E : Hid (1000000 - (-n + 1000000000) % 1000000 = n % 1000000) := e
    clear h e
    go_enter Tryd.func20, Tryd.ntmps20
    go_wp2
    go_ret2
    exact ⟨_, ret_pair E.out, (Below.refl _ _).alloc (Nat.le_refl _) _⟩

set_option maxHeartbeats 800000 in
theorem div_neg0 (s : Int) (w : World) (hs0 : -4398046511104 ≤ s) (hs1 : s < 0) :
    Calls Tryd.prog 20 #[.agg #[.int .u64 0, .int .i64 s, .pointer none], .int .i64 1000000] w fun e w' => ∃ m : Int, e = .returned (.tuple #[.int .i64 m, .int .i64 0]) ∧ Below w.heap.size w w' := by
  have b1 := and_low 0 (by omega) (by omega)
  have b4 := and_mono 0 (by omega) (by omega)
  go_enter Tryd.func20, Tryd.ntmps20
  go_wp2
  go_ret2
  exact ⟨_, rfl, (Below.refl _ _).alloc (Nat.le_refl _) _⟩

/-- time.div at a millisecond: the remainder is that of the nanoseconds, whatever the sign of the seconds. -/
theorem div_any (n s : Int) (w : World) (hn0 : 0 ≤ n) (hn1 : n < 1000000000) (hs0 : -4398046511104 ≤ s) (hs1 : s ≤ 4398046511104) :
    Calls Tryd.prog 20 #[.agg #[.int .u64 n, .int .i64 s, .pointer none], .int .i64 1000000] w fun e w' => ∃ m : Int, e = .returned (.tuple #[.int .i64 m, .int .i64 (n % 1000000)]) ∧ Below w.heap.size w w' := by
  by_cases h : 0 ≤ s
  · exact div_pos n s w hn0 hn1 h hs1
  · by_cases h0 : n = 0
    · subst h0; exact div_neg0 s w hs0 (by omega)
    · exact div_neg n s w (by omega) hn1 hs0 (by omega)

theorem stood25 : Tryd.prog.stoodInHeld 25 = false := by kernel_rfl

/-- '==' of a Time with itself. -/
theorem eqT_same (n s : Int) (w : World) : (binOp .eql 25 (.agg #[.int .u64 n, .int .i64 s, .pointer none]) (.agg #[.int .u64 n, .int .i64 s, .pointer none])).run Tryd.prog w = .ok (.bool true) w := by
  have hS : Tryd.prog.underlying 25 = some (.struct (Tryd.prog.fieldsOf 25)) := by kernel_rfl
  have hP : Tryd.prog.underlying 23 = some (.pointer (Tryd.prog.pointee 23)) := by kernel_rfl
  rw [run_eql_struct, show (10000 : Nat) = 9999 + 1 from rfl, run_equalIn_agg w 9999 25 _ _ hS stood25]
  simp only [Program.fieldsOf, Tryd.underlying25]
  go_simp
  have h := run_equalIn_pointer_nil (P := Tryd.prog) w 9998 23 none hP
  rw [show (9999 : Nat) = 9998 + 1 from rfl, h]
  rfl

theorem info45 : (Tryd.prog.info? 45).isSome = true := by kernel_rfl
/-- '&utcLoc == &utcLoc'. -/
theorem eql_loc (w : World) : (binOp .eql 23 (.pointer (some ⟨0, 0, none⟩)) (.pointer (some ⟨0, 0, none⟩))).run Tryd.prog w = .ok (.bool true) w := by
  obtain ⟨j, hj⟩ := Option.isSome_iff_exists.1 info45
  exact run_eql_ptr_same w ⟨0, 0, none⟩ Tryd.underlying23 hj

set_option maxHeartbeats 800000 in
/-- Time.UTC of a time in UTC. -/
theorem utc_any (n s : Int) (w : World) (hn0 : 0 ≤ n) (hn1 : n < 1000000000) :
    Calls Tryd.prog 17 #[.agg #[.int .u64 n, .int .i64 s, .pointer none]] w fun e w' => e = .returned (T n s) ∧ Below w.heap.size w w' := by
  have b4 := and_mono n (by omega) (by omega)
  have k1 := eql_loc
  go_enter Tryd.func17, Tryd.ntmps17
  go_wp2
  go_end0
  go_wp2
  go_end0
  go_wp2
  exact bodyPost_ret (v := T n s) (by simp [T, results, Tryd.results17, go_sem]) rfl ⟨rfl, ((Below.refl _ _).alloc (Nat.le_refl _) _).alloc (by simp) _⟩

set_option maxHeartbeats 800000 in
/-- Time.Truncate to the millisecond. -/
theorem trunc_any (n s : Int) (w : World) (hn0 : 0 ≤ n) (hn1 : n < 1000000000) (hs0 : -4398046511104 ≤ s) (hs1 : s ≤ 4398046511104) :
    Calls Tryd.prog 18 #[.agg #[.int .u64 n, .int .i64 s, .pointer none], .int .i64 1000000] w fun e w' => e = .returned (T (n - n % 1000000) s) ∧ Below w.heap.size w w' := by
  have b4 := and_mono n (by omega) (by omega)
  go_enter Tryd.func18, Tryd.ntmps18
  go_wp2_with (go_at_call 16; go_in)
  go_end0
  go_wp2_with fail
  refine (div_any n s _ hn0 hn1 hs0 hs1).mono ?_
  rintro e w1 ⟨m, rfl, hB1⟩
  have g0 := Holds3.later (w := (w.alloc (.cells #[.int .u64 n, .int .i64 s, .pointer none] 25)).alloc (.cells #[.int .u64 0, .int .i64 0, .pointer none] 25)) (b := w.heap.size) (x0 := .int .u64 n) (x1 := .int .i64 s) (x2 := .pointer none) ⟨by simp, by simp, by simp, by simp, by simp, by simp, by simp; omega⟩ (by simp; omega) hB1
  have g1 := Holds3.later (w := (w.alloc (.cells #[.int .u64 n, .int .i64 s, .pointer none] 25)).alloc (.cells #[.int .u64 0, .int .i64 0, .pointer none] 25)) (b := w.heap.size + 1) (x0 := .int .u64 0) (x1 := .int .i64 0) (x2 := .pointer none) ⟨by simp, by simp, by simp, by simp, by simp, by simp, by simp⟩ (by simp) hB1
  obtain ⟨c0, c1, c2, _, _, _, z0⟩ := g0
  have hB : Below w.heap.size w w1 := (((Below.refl _ _).alloc (Nat.le_refl _) _).alloc (by simp) _).trans (hB1.mono (by simp; omega))
  have hz1 : w.heap.size + 1 < w1.heap.size := g1.2.2.2.2.2.2
  clear hB1
  go_wp2_with fail
  have e1 : (n + -(n % 1000000)) % 1000000000 = n - n % 1000000 := by omega
  have e2 : s + (n + -(n % 1000000)) / 1000000000 = s := by omega
  have A := add_any n s (-(n % 1000000)) w1 hn0 hn1 hs0 hs1 (by omega) (by omega)
  rw [e1, e2] at A
  refine A.mono ?_
  rintro e w2 ⟨rfl, hB2⟩
  obtain ⟨d0, d1, d2, f0, f1, f2, z2⟩ := g1.later hz1 hB2
  have hB3 : Below w.heap.size w w2 := hB.trans (hB2.mono hB.size)
  clear A e1 e2 hB2 hB g1 c0 c1 c2 z0
  unfold T
  go_wp2
  exact bodyPost_ret (v := T (n - n % 1000000) s) (by simp [T, results, Tryd.results18, go_sem, d0, d1, d2]) rfl ⟨rfl, ((hB3.setCell (Nat.le_succ _) _).setCell (Nat.le_succ _) _).setCell (Nat.le_succ _) _⟩

set_option maxHeartbeats 800000 in
/-- controller.stamp. -/
theorem stamp_any (n s : Int) (w : World) (hn0 : 0 ≤ n) (hn1 : n < 1000000000) (hs0 : -4398046511104 ≤ s) (hs1 : s ≤ 4398046511104) :
    Calls Tryd.prog 11 #[.agg #[.int .u64 n, .int .i64 s, .pointer none]] w fun e w' => e = .returned (T (n - n % 1000000) s) ∧ Below w.heap.size w w' := by
  go_enter Tryd.func11, Tryd.ntmps11
  go_wp2_with fail
  refine (utc_any n s _ hn0 hn1).mono ?_
  rintro e w1 ⟨rfl, hB1⟩
  have g1 := Holds3.later (w := (w.alloc (.cells #[.int .u64 n, .int .i64 s, .pointer none] 25)).alloc (.cells #[.int .u64 0, .int .i64 0, .pointer none] 25)) (b := w.heap.size + 1) (x0 := .int .u64 0) (x1 := .int .i64 0) (x2 := .pointer none) ⟨by simp, by simp, by simp, by simp, by simp, by simp, by simp⟩ (by simp) hB1
  have hB : Below w.heap.size w w1 := (((Below.refl _ _).alloc (Nat.le_refl _) _).alloc (by simp) _).trans (hB1.mono (by simp; omega))
  have hz1 : w.heap.size + 1 < w1.heap.size := g1.2.2.2.2.2.2
  clear hB1
  unfold T
  go_wp2_with fail
  refine (trunc_any n s w1 hn0 hn1 hs0 hs1).mono ?_
  rintro e w2 ⟨rfl, hB2⟩
  obtain ⟨d0, d1, d2, f0, f1, f2, z2⟩ := g1.later hz1 hB2
  have hB3 : Below w.heap.size w w2 := hB.trans (hB2.mono hB.size)
  clear hB2 hB g1
  unfold T
  go_wp2
  exact bodyPost_ret (v := T (n - n % 1000000) s) (by simp [T, results, Tryd.results11, go_sem, d0, d1, d2]) rfl ⟨rfl, ((hB3.setCell (Nat.le_succ _) _).setCell (Nat.le_succ _) _).setCell (Nat.le_succ _) _⟩

set_option maxHeartbeats 800000 in
/-- controller.ZZstamp. -/
theorem zz_any (n s : Int) (w : World) (hn0 : 0 ≤ n) (hn1 : n < 1000000000) (hs0 : -4398046511104 ≤ s) (hs1 : s ≤ 4398046511104) :
    Calls Tryd.prog 6 #[.agg #[.int .u64 n, .int .i64 s, .pointer none]] w fun e w' => e = .returned (.agg #[.int .u64 (n - n % 1000000), .int .i64 s, .pointer none]) ∧ Below w.heap.size w w' := by
  go_enter Tryd.func6, Tryd.ntmps6
  go_wp2_with fail
  refine (stamp_any n s _ hn0 hn1 hs0 hs1).mono ?_
  rintro e w1 ⟨rfl, hB1⟩
  have g1 := Holds3.later (w := (w.alloc (.cells #[.int .u64 n, .int .i64 s, .pointer none] 25)).alloc (.cells #[.int .u64 0, .int .i64 0, .pointer none] 25)) (b := w.heap.size + 1) (x0 := .int .u64 0) (x1 := .int .i64 0) (x2 := .pointer none) ⟨by simp, by simp, by simp, by simp, by simp, by simp, by simp⟩ (by simp) hB1
  have hB3 : Below w.heap.size w w1 := (((Below.refl _ _).alloc (Nat.le_refl _) _).alloc (by simp) _).trans (hB1.mono (by simp; omega))
  obtain ⟨d0, d1, d2, f0, f1, f2, z2⟩ := g1
  clear hB1
  unfold T
  go_wp2
  exact bodyPost_ret (v := T (n - n % 1000000) s) (by simp [T, results, Tryd.results6, go_sem, d0, d1, d2]) rfl ⟨rfl, ((hB3.setCell (Nat.le_succ _) _).setCell (Nat.le_succ _) _).setCell (Nat.le_succ _) _⟩
end Go.Proofs.Qxb6616117aDoor
