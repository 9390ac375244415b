/-
  THE SEAT b6616074aD: plain arithmetic of decimal numerals: no Go in sight. By an AI agent.
-/
import Derived.Lib.ItoaNum
namespace Go.Proofs.Qxb6616074aDoor
open Go

/-- What the first k digits of u spell. -/
def accN (u k : Nat) : Nat := u / 10 ^ (Lib.nDigits u - k)
/-- The k-th digit of u, the first ahead. -/
def digN (u k : Nat) : Nat := u / 10 ^ (Lib.nDigits u - 1 - k) % 10

theorem pow_le_nDigits (u : Nat) (h : 1 < Lib.nDigits u) : 10 ^ (Lib.nDigits u - 1) ≤ u := by
  induction u using Nat.strongRecOn with
  | _ u ih =>
    by_cases h10 : u < 10
    · rw [Lib.nDigits_small h10] at h; omega
    · rw [Lib.nDigits_big h10] at h ⊢
      by_cases h2 : 1 < Lib.nDigits (u / 10)
      · have := ih (u / 10) (by omega) h2
        have e : Lib.nDigits (u / 10) + 1 - 1 = (Lib.nDigits (u / 10) - 1) + 1 := by omega
        rw [e, Nat.pow_succ]
        omega
      · have := Lib.nDigits_pos (u / 10)
        have e : Lib.nDigits (u / 10) + 1 - 1 = 1 := by omega
        rw [e]
        omega

theorem acc_zero (u : Nat) : accN u 0 = 0 := by
  unfold accN
  exact Nat.div_eq_of_lt (by simpa using Lib.lt_pow_nDigits u)

theorem acc_all (u : Nat) : accN u (Lib.nDigits u) = u := by
  unfold accN; simp

theorem acc_step (u k : Nat) (hk : k < Lib.nDigits u) : accN u (k + 1) = accN u k * 10 + digN u k := by
  unfold accN digN
  have e : Lib.nDigits u - k = (Lib.nDigits u - 1 - k) + 1 := by omega
  have e2 : Lib.nDigits u - (k + 1) = Lib.nDigits u - 1 - k := by omega
  rw [e, e2, Nat.pow_succ, ← Nat.div_div_eq_div_mul]
  omega

theorem dig_le (u k : Nat) : digN u k ≤ 9 := by unfold digN; omega

theorem acc_le (u k : Nat) : accN u k ≤ u := Nat.div_le_self _ _

theorem dig_lead (u : Nat) (h : 1 < Lib.nDigits u) : 1 ≤ digN u 0 := by
  unfold digN
  have h1 := pow_le_nDigits u h
  have h2 := Lib.lt_pow_nDigits u
  have e : Lib.nDigits u = (Lib.nDigits u - 1) + 1 := by omega
  rw [e, Nat.pow_succ] at h2
  simp only [Nat.sub_zero]
  have hp : 0 < 10 ^ (Lib.nDigits u - 1) := Nat.pow_pos (by decide)
  have a1 : 1 ≤ u / 10 ^ (Lib.nDigits u - 1) := (Nat.one_le_div_iff hp).2 h1
  have a2 : u / 10 ^ (Lib.nDigits u - 1) < 10 := Nat.div_lt_of_lt_mul h2
  rw [Nat.mod_eq_of_lt a2]
  exact a1

theorem dig_at (u k : Nat) (hk : k < (Lib.decDigits u).length) : ((Lib.decDigits u)[k].toNat : Int) = 48 + (digN u k : Int) := by
  have e : (Lib.decDigits u)[k] = Lib.dg u (Lib.nDigits u - 1 - k) := by
    have := congrArg (fun l => l[k]?) (Lib.decDigits_eq u)
    rw [Lib.decDigits_length] at hk
    simp [hk] at this
    have h2 : (Lib.decDigits u)[k]? = some (Lib.decDigits u)[k] := List.getElem?_eq_getElem _
    rw [h2] at this
    exact Option.some.inj this
  rw [e]
  unfold Lib.dg digN
  have h9 : u / 10 ^ (Lib.nDigits u - 1 - k) % 10 < 10 := Nat.mod_lt _ (by decide)
  generalize u / 10 ^ (Lib.nDigits u - 1 - k) % 10 = x at h9
  have : (UInt8.ofNat (48 + x)).toNat = 48 + x := by
    rw [UInt8.toNat_ofNat']
    omega
  rw [this]
  omega

theorem dec_snoc (u d : Nat) (hu : 1 ≤ u) (hd : d ≤ 9) : Lib.decDigits (u * 10 + d) = Lib.decDigits u ++ [UInt8.ofNat (48 + d)] := by
  rw [Lib.decDigits, dif_neg (by omega)]
  have e1 : (u * 10 + d) / 10 = u := by omega
  have e2 : (u * 10 + d) % 10 = d := by omega
  rw [e1, e2]

theorem digits_le20 (u : Nat) (h : u < 18446744073709551616) : Lib.nDigits u ≤ 20 := by
  by_cases h1 : 1 ≤ u
  · have := Lib.numDigits_eq u h1 h
    split at this <;> omega
  · rw [Lib.nDigits_small (by omega)]; omega
end Go.Proofs.Qxb6616074aDoor
