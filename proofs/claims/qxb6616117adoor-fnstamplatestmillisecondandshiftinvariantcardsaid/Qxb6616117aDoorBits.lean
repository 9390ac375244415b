/-
  THE SEAT b6616117aD: bits of a small wall word, and truncating division by a billion: no Go in sight. By an AI agent.
-/
import Derived.Laws.BitsAllLaws
namespace Go.Proofs.Qxb6616117aDoor
open Go

theorem and_low (x : Int) (h0 : 0 ≤ x) (h1 : x < 1073741824) : bits .and .u64 x 1073741823 = x := by
  rw [u64_and x 1073741823 h0 (by omega) (by omega) (by omega)]
  have e : x.toNat &&& (1073741823 : Int).toNat = x.toNat % 1073741824 := Nat.and_two_pow_sub_one_eq_mod x.toNat 30
  rw [e]
  omega

theorem and_mono (x : Int) (h0 : 0 ≤ x) (h1 : x < 1073741824) : bits .and .u64 x 9223372036854775808 = 0 := by
  rw [u64_and x 9223372036854775808 h0 (by omega) (by omega) (by omega)]
  have e : x.toNat &&& (9223372036854775808 : Int).toNat = x.toNat / 9223372036854775808 % 2 * 9223372036854775808 := nat_bit 63 x.toNat
  rw [e]
  have : x.toNat / 9223372036854775808 = 0 := Nat.div_eq_of_lt (by omega)
  rw [this]
  rfl

theorem andNot_low (x : Int) (h0 : 0 ≤ x) (h1 : x < 1073741824) : bits .andNot .u64 x 1073741823 = 0 := by
  rw [u64_andNot x 1073741823 h0 (by omega) (by omega) (by omega)]
  have e : x.toNat &&& (18446744073709551615 - (1073741823 : Int).toNat) = 0 := by
    apply Nat.eq_of_testBit_eq
    intro i
    rw [Nat.testBit_and, Nat.zero_testBit]
    by_cases hi : i < 30
    · have : (18446744073709551615 - (1073741823 : Int).toNat).testBit i = false := by
        have h2 : (18446744073709551615 - (1073741823 : Int).toNat) = 17179869183 * 2 ^ 30 := by decide
        rw [h2, Nat.testBit_mul_two_pow]
        simp; omega
      rw [this, Bool.and_false]
    · have : x.toNat.testBit i = false := Nat.testBit_lt_two_pow (by
        have : 2 ^ 30 ≤ 2 ^ i := Nat.pow_le_pow_right (by decide) (by omega)
        omega)
      simp [this]
  rw [e]
  rfl

theorem or_zero (x : Int) (h0 : 0 ≤ x) (h1 : x < 1073741824) : bits .or .u64 0 x = x := by
  rw [u64_or 0 x (by omega) (by omega) h0 (by omega)]
  simp
  omega

/-- Go's '/' and '%' by a billion: the quotient, the remainder, its bounds. -/
theorem tdiv_parts (d : Int) : ∃ q r : Int, d.tdiv 1000000000 = q ∧ d.tmod 1000000000 = r ∧ d = q * 1000000000 + r ∧ -1000000000 < r ∧ r < 1000000000 := by
  refine ⟨_, _, rfl, rfl, ?_, ?_, ?_⟩
  · have := Int.tmod_add_mul_tdiv d 1000000000; omega
  · by_cases h : 0 ≤ d
    · have := Int.tmod_nonneg 1000000000 h; omega
    · have h2 : (-d).tmod 1000000000 < 1000000000 := Int.tmod_lt_of_pos (-d) (by decide)
      rw [Int.neg_tmod] at h2
      omega
  · exact Int.tmod_lt_of_pos d (by decide)
end Go.Proofs.Qxb6616117aDoor
