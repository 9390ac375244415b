/-
  THE SEAT b6615813aF: the walk of the law 'FnParseKindAcceptsExactlyTheNames'. By an AI agent.
-/
import Derived.Test.Qxb6615813aFmtW1
namespace Go.Proofs.Qxb6615813aFmt
open Go.RowKit Go.Extern.Stop Go.Stop Go.Extern

theorem same_of {s t : ByteArray} (h : (s.toList == t.toList) = true) : s = t := by
  have h1 : s.toList = t.toList := by simpa using h
  rw [ByteArray.toList_eq, ByteArray.toList_eq] at h1
  exact ByteArray.ext (Array.toList_inj.1 h1)

/-- The j-th name. -/
def nameOf (j : Nat) : ByteArray := if j = 0 then sOff else if j = 1 then sToken else sLeaky

theorem miss_or (s : ByteArray) : Miss s ∨ ∃ j, j < 3 ∧ nameOf j = s := by
  by_cases h0 : (s.toList == sOff.toList) = true
  · exact .inr ⟨0, by omega, (same_of h0).symm⟩
  by_cases h1 : (s.toList == sToken.toList) = true
  · exact .inr ⟨1, by omega, (same_of h1).symm⟩
  by_cases h2 : (s.toList == sLeaky.toList) = true
  · exact .inr ⟨2, by omega, (same_of h2).symm⟩
  exact .inl ⟨by simpa using h0, by simpa using h1, by simpa using h2⟩

theorem Tab.name {b o c : Nat} {w : World} (h : Tab b o c w) (k : Nat) (hk : k < 3) : w.cell? ⟨b, o + k, none⟩ = some (.string (nameOf k)) := by
  rcases k with _ | _ | _ | k
  · exact h.2.2.1
  · exact h.2.2.2.1
  · exact h.2.2.2.2.1
  · omega

theorem Miss.name {s : ByteArray} (h : Miss s) (k : Nat) (hk : k < 3) : ((nameOf k).toList == s.toList) = false := by
  have e : ∀ a b : List UInt8, (a == b) = false → (b == a) = false := fun a b hh => by
    rw [beq_eq_false_iff_ne] at *; exact fun x => hh x.symm
  rcases k with _ | _ | _ | k
  · exact e _ _ h.1
  · exact e _ _ h.2.1
  · exact e _ _ h.2.2
  · omega

set_option maxHeartbeats 400000 in
theorem accepts_miss (F : Interp) (s : ByteArray) (b o c : Nat) (w : World) (hF : F.answers w.tape) (ht : Tab b o c w) (hm : Miss s) (hs : s.size ≤ 262144) :
    Calls Tryf.prog 3 #[.string s] w fun e w' => e = .returned (.bool true) ∧ Below w.heap.size w w' := by
  go_enter Tryf.func3, Tryf.ntmps3
  go_wp2_with (first | (go_at_call 6; refine (kind_miss F s b o c _ hF ht hm).mono ?_; rintro e w1 ⟨a, rfl, hB⟩) | (go_at_call 5; go_in))
  have hz1 : w.heap.size ≤ w1.heap.size := hB.size
  go_loopw [5, 6] (fun m j wr => ∃ k : Nat, k ≤ 3 ∧ j = .int .i64 k ∧ m = .int .i64 (-1) ∧ Below w.heap.size w wr) (fun _ j _ => 3 - (intOf j).toNat)
  case atStart => exact ⟨0, by omega, rfl, rfl, hB⟩
  case round =>
    obtain ⟨k, hk, rfl, rfl, hBr⟩ := hrel
    by_cases hlt : k < 3
    · have htr := ht.below hBr
      have hne := hm.name k hlt
      have hcc := htr.name k hlt
      go_wp2_with (go_at_call 7; refine (string_any k hlt (nameOf k) b o c _ htr hcc).mono ?_; rintro e w2 ⟨rfl, hB2⟩)
      go_roundw
      case rel => exact ⟨k + 1, by omega, by go_num, rfl, hBr.trans (hB2.mono hBr.size)⟩
      case measure => simp [intOf]; omega
    · go_wp2
      go_ret
      exact ⟨rfl, hBr⟩

set_option maxHeartbeats 400000 in
theorem accepts_hit (i : Nat) (hi : i < 3) (s : ByteArray) (b o c : Nat) (w : World) (ht : Tab b o c w) (hm : nameOf i = s) (hs : s.size ≤ 262144) :
    Calls Tryf.prog 3 #[.string s] w fun e w' => e = .returned (.bool true) ∧ Below w.heap.size w w' := by
  have HM : Hid (nameOf i = s) := hm
  clear hm
  go_enter Tryf.func3, Tryf.ntmps3
  go_wp2_with (first | (go_at_call 6; refine (kind_hit i hi s b o c _ ht HM.out).mono ?_; rintro e w1 ⟨rfl, hB⟩) | (go_at_call 5; go_in))
  have hz1 : w.heap.size ≤ w1.heap.size := hB.size
  go_loopw [5, 6] (fun m j wr => ∃ k : Nat, k ≤ 3 ∧ j = .int .i64 k ∧ m = .int .i64 (if k ≤ i then -1 else i) ∧ Below w.heap.size w wr) (fun _ j _ => 3 - (intOf j).toNat)
  case atStart => exact ⟨0, by omega, rfl, rfl, hB⟩
  case round =>
    obtain ⟨k, hk, rfl, rfl, hBr⟩ := hrel
    by_cases hlt : k < 3
    · have htr := ht.below hBr
      have hcc := htr.name k hlt
      by_cases hki : k ≤ i
      · rw [if_pos hki]
        by_cases hkeq : k = i
        · have hne : ((nameOf k).toList == s.toList) = true := by rw [hkeq, HM.out]; simp
          have HK : Hid (k = i) := hkeq
          clear hkeq
          go_wp2_with (go_at_call 7; refine (string_any k hlt (nameOf k) b o c _ htr hcc).mono ?_; rintro e w2 ⟨rfl, hB2⟩)
          go_roundw
          case rel => exact ⟨k + 1, by omega, by go_num, by rw [if_neg (by have := HK.out; omega), HK.out], hBr.trans (hB2.mono hBr.size)⟩
          case measure => simp [intOf]; omega
        · have hne : ((nameOf k).toList == s.toList) = false := by
            rw [← HM.out]
            rcases i with _ | _ | _ | i
            · omega
            · obtain rfl : k = 0 := by omega
              decide +kernel
            · rcases k with _ | _ | k
              · decide +kernel
              · decide +kernel
              · omega
            · omega
          go_wp2_with (go_at_call 7; refine (string_any k hlt (nameOf k) b o c _ htr hcc).mono ?_; rintro e w2 ⟨rfl, hB2⟩)
          go_roundw
          case rel => exact ⟨k + 1, by omega, by go_num, by rw [if_pos (by omega)], hBr.trans (hB2.mono hBr.size)⟩
          case measure => simp [intOf]; omega
      · rw [if_neg hki]
        go_wp2
        go_roundw
        case rel => exact ⟨k + 1, by omega, by go_num, by rw [if_neg (by omega)], hBr⟩
        case measure => simp [intOf]; omega
    · rw [if_neg (by omega)]
      go_wp2
      go_ret
      exact ⟨rfl, hBr⟩

set_option maxHeartbeats 400000 in
theorem accepts_long (s : ByteArray) (w : World) (hs : 262144 < s.size) (hm : s.size ≤ maxLen) :
    Calls Tryf.prog 3 #[.string s] w fun e w' => e = .returned (.bool true) ∧ Below w.heap.size w w' := by
  unfold maxLen at hm
  go_enter Tryf.func3, Tryf.ntmps3
  go_wp2
  all_goals (go_ret; exact ⟨rfl, Below.refl _ _⟩)

theorem accepts_any (F : Interp) (s : ByteArray) (b o c : Nat) (w : World) (hF : F.answers w.tape) (ht : Tab b o c w) (hm : s.size ≤ maxLen) :
    Calls Tryf.prog 3 #[.string s] w fun e w' => e = .returned (.bool true) ∧ Below w.heap.size w w' := by
  by_cases hs : 262144 < s.size
  · exact accepts_long s w hs hm
  · rcases miss_or s with h | ⟨i, hi, h⟩
    · exact accepts_miss F s b o c w hF ht h (by omega)
    · exact accepts_hit i hi s b o c w ht h (by omega)
end Go.Proofs.Qxb6615813aFmt
