/-
  THE SEAT b6616117aD: the walks of Time.After, Time.Before, Time.Nanosecond. By an AI agent.
-/
import Derived.Test.Qxb6616117aDoorAt
namespace Go.Proofs.Qxb6616117aDoor
open Go.RowKit

theorem and_and (x y : Int) (h0 : 0 ≤ x) (h1 : x < 1073741824) (k0 : 0 ≤ y) (k1 : y < 1073741824) : bits .and .u64 (bits .and .u64 x y) 9223372036854775808 = 0 := by
  rw [u64_and x y h0 (by omega) k0 (by omega)]
  have h : x.toNat &&& y.toNat ≤ x.toNat := Nat.and_le_left
  exact and_mono _ (by omega) (by omega)

theorem ret_bool {b c : Bool} (h : b = c) : Ending.returned (.bool b) = .returned (.bool c) := by rw [h]

set_option maxHeartbeats 800000 in
theorem nano_any (n s : Int) (w : World) (hn0 : 0 ≤ n) (hn1 : n < 1000000000) :
    Calls Tryd.prog 7 #[.agg #[.int .u64 n, .int .i64 s, .pointer none]] w fun e w' => e = .returned (.int .i64 n) ∧ Below w.heap.size w w' := by
  have b1 := and_low n hn0 (by omega)
  go_enter Tryd.func7, Tryd.ntmps7
  go_wp2
  go_ret
  exact ⟨rfl, (Below.refl _ _).alloc (Nat.le_refl _) _⟩

set_option maxHeartbeats 800000 in
/-- s.After(t), s the earlier or the same within one second: false. -/
theorem after_no (m n s : Int) (w : World) (hm0 : 0 ≤ m) (hn1 : n < 1000000000) (hmn : m ≤ n) :
    Calls Tryd.prog 8 #[.agg #[.int .u64 m, .int .i64 s, .pointer none], .agg #[.int .u64 n, .int .i64 s, .pointer none]] w fun e w' => e = .returned (.bool false) ∧ Below w.heap.size w w' := by
  have b0 := and_and m n (by omega) (by omega) (by omega) (by omega)
  have b1 := and_low n (by omega) (by omega)
  have b2 := and_low m (by omega) (by omega)
  have b3 := and_mono n (by omega) (by omega)
  have b4 := and_mono m (by omega) (by omega)
  go_enter Tryd.func8, Tryd.ntmps8
  go_wp2
  go_ret
  exact ⟨ret_bool (decide_eq_false (show ¬ n < m by omega)), ((Below.refl _ _).alloc (Nat.le_refl _) _).alloc (by simp) _⟩

set_option maxHeartbeats 800000 in
/-- t.Before(u), u in a later second: true. -/
theorem before_sec (n s a b : Int) (w : World) (hn0 : 0 ≤ n) (hn1 : n < 1000000000) (ha0 : 0 ≤ a) (ha1 : a < 1000000000) (hsb : s < b) :
    Calls Tryd.prog 9 #[.agg #[.int .u64 n, .int .i64 s, .pointer none], .agg #[.int .u64 a, .int .i64 b, .pointer none]] w fun e w' => e = .returned (.bool true) ∧ Below w.heap.size w w' := by
  have b0 := and_and n a (by omega) (by omega) (by omega) (by omega)
  have b3 := and_mono n (by omega) (by omega)
  have b4 := and_mono a (by omega) (by omega)
  go_enter Tryd.func9, Tryd.ntmps9
  go_wp2
  go_ret
  exact ⟨rfl, ((Below.refl _ _).alloc (Nat.le_refl _) _).alloc (by simp) _⟩

set_option maxHeartbeats 800000 in
/-- t.Before(u), u later within the second: true. -/
theorem before_ns (n s a : Int) (w : World) (hn0 : 0 ≤ n) (ha1 : a < 1000000000) (hna : n < a) :
    Calls Tryd.prog 9 #[.agg #[.int .u64 n, .int .i64 s, .pointer none], .agg #[.int .u64 a, .int .i64 s, .pointer none]] w fun e w' => e = .returned (.bool true) ∧ Below w.heap.size w w' := by
  have b0 := and_and n a (by omega) (by omega) (by omega) (by omega)
  have b1 := and_low n (by omega) (by omega)
  have b2 := and_low a (by omega) (by omega)
  have b3 := and_mono n (by omega) (by omega)
  have b4 := and_mono a (by omega) (by omega)
  go_enter Tryd.func9, Tryd.ntmps9
  go_wp2
  go_ret
  exact ⟨rfl, ((Below.refl _ _).alloc (Nat.le_refl _) _).alloc (by simp) _⟩

/-- t.Before(u). -/
theorem before_any (n s a b : Int) (w : World) (hn0 : 0 ≤ n) (hn1 : n < 1000000000) (ha0 : 0 ≤ a) (ha1 : a < 1000000000) (h : s < b ∨ (s = b ∧ n < a)) :
    Calls Tryd.prog 9 #[.agg #[.int .u64 n, .int .i64 s, .pointer none], .agg #[.int .u64 a, .int .i64 b, .pointer none]] w fun e w' => e = .returned (.bool true) ∧ Below w.heap.size w w' := by
  rcases h with h | ⟨rfl, h⟩
  · exact before_sec n s a b w hn0 hn1 ha0 ha1 h
  · exact before_ns n s a w hn0 ha1 h
end Go.Proofs.Qxb6616117aDoor
