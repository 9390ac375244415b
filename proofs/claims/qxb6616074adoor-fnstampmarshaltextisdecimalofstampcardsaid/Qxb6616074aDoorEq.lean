/-
  THE SEAT b6616074aD: the walks of bytesEq, AppendText, MarshalText; parseCanonicalDecimal of a numeral. By an AI agent.
-/
import Derived.Test.Qxb6616074aDoorParse
import Derived.Test.Qxb6616074aDoorPlain
import Derived.Deep.QuietTactic
import Derived.BigQuiet
namespace Go.Proofs.Qxb6616074aDoor
open Go.RowKit

set_option maxHeartbeats 800000 in
/-- bytesEq of two rows of the same bytes. -/
theorem eq_rows (g o c g' o' c' n : Nat) (z : Nat → Int) (w : World) (hn : n ≤ maxLen)
    (h1 : ∀ k, k < n → w.cell? ⟨g, o + k, none⟩ = some (.int .u8 (z k))) (h2 : ∀ k, k < n → w.cell? ⟨g', o' + k, none⟩ = some (.int .u8 (z k))) :
    Calls Tryd.prog 10 #[.slice (some ⟨g, o, none⟩) n c, .slice (some ⟨g', o', none⟩) n c'] w fun e w' => e = .returned (.bool true) ∧ ∃ q, w' = w.drewN q := by
  unfold maxLen at hn
  have H1 : Hid (∀ k, k < n → w.cell? ⟨g, o + k, none⟩ = some (.int .u8 (z k))) := h1
  have H2 : Hid (∀ k, k < n → w.cell? ⟨g', o' + k, none⟩ = some (.int .u8 (z k))) := h2
  clear h1 h2
  go_enter Tryd.func10, Tryd.ntmps10
  go_wp2
  go_loopw [5] (fun i wr => ∃ (k q : Nat), k ≤ n ∧ i = .int .i64 k ∧ wr = w.drewN q) (fun i _ => n - (intOf i).toNat)
  case atStart => exact ⟨0, 0, by omega, rfl, rfl⟩
  case round =>
    obtain ⟨k, q, hk, rfl, rfl⟩ := hrel
    by_cases hlt : k < n
    · have e1 := H1.out k hlt
      have e2 := H2.out k hlt
      have hi : (k : Int) < (n : Int) := by omega
      go_wp2_with fail
      go_quiet (fail)
      go_wp2
      go_roundw
      case rel => exact ⟨k + 1, _, by omega, by go_num, rfl⟩
      case measure => simp [intOf]; omega
    · go_wp2
      go_ret
      exact ⟨rfl, q, rfl⟩

set_option maxHeartbeats 800000 in
/-- bytesEq of two slices without elements. -/
theorem eq_empty (A A' : Option Addr) (c c' : Nat) (w : World) :
    Calls Tryd.prog 10 #[.slice A 0 c, .slice A' 0 c'] w fun e w' => e = .returned (.bool true) ∧ ∃ q, w' = w.drewN q := by
  go_enter Tryd.func10, Tryd.ntmps10
  go_wp2
  go_loopw [5] (fun i wr => i = .int .i64 0 ∧ wr = w) (fun _ _ => 0)
  case atStart => exact ⟨rfl, rfl⟩
  case round =>
    obtain ⟨rfl, rfl⟩ := hrel
    go_wp2
    go_ret
    exact ⟨rfl, 0, rfl⟩

/-- strconv.AppendUint at base 10. -/
theorem au_any (B n u : Nat) (hu64 : u < 18446744073709551616) (sv : Value) (xs : List Value) (w : World) (hown : w.ownsRow B 5 1 sv n xs) (hBw : B ≤ w.heap.size) (hlim : n + 20 ≤ 140737488355328)
    (htab : Lib.TabIs Tryd.prog w powName .u64 Lib.pow10Tab) :
    Calls Tryd.prog 17 #[sv, .int .u64 u, .int .i64 10] w fun e w' => ∃ v', e = .returned v' ∧ w'.ownsRow B 5 1 v' (n + (Lib.decDigits u).length) (xs ++ Lib.byteCells (Lib.decDigits u)) ∧ w.grownBy w' sv.ownBlock := by
  by_cases h : u < 100
  · exact au_small B n u h sv xs w hown hBw hlim
  · exact au_big B n u (by omega) hu64 sv xs w hown hBw hlim htab

set_option maxHeartbeats 800000 in
/-- Stamp.AppendText. -/
theorem text_any (B n u : Nat) (hu64 : u < 18446744073709551616) (sv : Value) (xs : List Value) (w : World) (hown : w.ownsRow B 5 1 sv n xs) (hBw : B ≤ w.heap.size) (hlim : n + 20 ≤ 140737488355328)
    (htab : Lib.TabIs Tryd.prog w powName .u64 Lib.pow10Tab) :
    Calls Tryd.prog 9 #[.int .u64 u, sv] w fun e w' => ∃ v', e = .returned (.tuple #[v', .nilIface]) ∧ w'.ownsRow B 5 1 v' (n + (Lib.decDigits u).length) (xs ++ Lib.byteCells (Lib.decDigits u)) ∧ w.grownBy w' sv.ownBlock := by
  have H := Lib.hid (au_any B n u hu64 sv xs w hown hBw hlim htab)
  clear hown htab
  go_enter Tryd.func9, Tryd.ntmps9
  go_wp2_with (first | (go_at_call 16; go_in) | (go_at_call 17; refine H.out.mono ?_; rintro e w1 ⟨v', rfl, hr⟩))
  go_ret2
  exact ⟨_, rfl, by assumption⟩

set_option maxHeartbeats 800000 in
/-- Stamp.MarshalText. -/
theorem marshal_any (u : Nat) (hu64 : u < 18446744073709551616) (w : World)
    (htab : Lib.TabIs Tryd.prog w powName .u64 Lib.pow10Tab) :
    Calls Tryd.prog 15 #[.int .u64 u] w fun e w' => ∃ v', e = .returned (.tuple #[v', .nilIface]) ∧ w'.ownsRow w.heap.size 5 1 v' (Lib.decDigits u).length (Lib.byteCells (Lib.decDigits u)) ∧ Below w.heap.size w w' := by
  have H := Lib.hid (text_any w.heap.size 0 u hu64 (.slice none 0 0) [] w (World.ownsRow_nil _ _ _ _) (Nat.le_refl _) (by omega) htab)
  clear htab
  go_enter Tryd.func15, Tryd.ntmps15
  go_wp2_with (go_at_call 9; refine H.out.mono ?_; rintro e w1 ⟨v', rfl, hr⟩)
  go_ret2
  obtain ⟨h1, h2⟩ := hr
  refine ⟨_, rfl, by simpa using h1, ⟨h2.os, h2.tape, h2.output, h2.size, fun k hk => h2.block k hk (by simp [Value.ownBlock])⟩⟩

/-- What an owned row of a numeral is, as a slice. -/
theorem row_of {w : World} {B n : Nat} {v : Value} {l : List UInt8} (h : w.ownsRow B 5 1 v n (Lib.byteCells l)) (hn : 1 ≤ n) :
    ∃ g c, v = .slice (some ⟨g, 0, none⟩) n c ∧ n ≤ c ∧ c ≤ maxLen ∧ B ≤ g ∧ g < w.heap.size ∧ l.length = n ∧ ∀ k (hk : k < l.length), w.cell? ⟨g, k, none⟩ = some (.int .u8 (l[k].toNat : Int)) := by
  have hl : l.length = n := by have := h.1; rw [Lib.byteCells_length] at this; omega
  rcases h.2 with ⟨_, h0⟩ | ⟨g, cap, cur, rfl, hB, hg, hc, hm, hs, ht⟩
  · omega
  · refine ⟨g, cap, rfl, hc, hm, hB, (Array.getElem?_eq_some_iff.1 hg).1, hl, fun k hk => ?_⟩
    rw [World.ownsRow.cellAt h k (by omega)]
    simp [Lib.byteCells, hk]

/-- parseCanonicalDecimal of u's numeral. -/
theorem parse_dec (u : Nat) (hu64 : u < 18446744073709551616) (g c : Nat) (w : World)
    (hc : ∀ k (hk : k < (Lib.decDigits u).length), w.cell? ⟨g, k, none⟩ = some (.int .u8 ((Lib.decDigits u)[k].toNat : Int))) :
    Calls Tryd.prog 11 #[.slice (some ⟨g, 0, none⟩) (Lib.decDigits u).length c] w fun e w' => e = .returned (.tuple #[.int .u64 u, .bool true]) ∧ w' = w := by
  have h := parse_any g (Lib.decDigits u).length c (digN u) (accN u) w (by rw [Lib.decDigits_length]; exact Lib.nDigits_pos u) (by rw [Lib.decDigits_length]; exact digits_le20 u hu64) (acc_zero u)
    (fun k hk => acc_step u k (by rwa [Lib.decDigits_length] at hk)) (dig_le u) (fun k _ => by have := acc_le u k; omega) (fun h => dig_lead u (by rwa [Lib.decDigits_length] at h))
    (fun k hk => by rw [hc k hk, dig_at])
  rw [show accN u (Lib.decDigits u).length = u by rw [Lib.decDigits_length]; exact acc_all u] at h
  exact h
end Go.Proofs.Qxb6616074aDoor
