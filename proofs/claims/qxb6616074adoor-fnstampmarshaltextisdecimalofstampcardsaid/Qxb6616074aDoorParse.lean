/-
  THE SEAT b6616074aD: the walk of parseCanonicalDecimal over a row of digits. By an AI agent.
-/
import Derived.Test.Qxb6616074aDoorAppend
import Derived.WalkSpells
namespace Go.Proofs.Qxb6616074aDoor
open Go.RowKit

set_option maxHeartbeats 800000 in
/-- parseCanonicalDecimal over a row of digits, told by abstract numbers: 'd k' the k-th digit, 'acc k' what the first k digits spell. -/
theorem parse_any (g n c : Nat) (d acc : Nat → Nat) (w : World) (hn1 : 1 ≤ n) (hn20 : n ≤ 20) (ha0 : acc 0 = 0) (hstep : ∀ k, k < n → acc (k + 1) = acc k * 10 + d k) (hd : ∀ k, d k ≤ 9) (hacc : ∀ k, k ≤ n → acc k ≤ 18446744073709551615) (hlead : 1 < n → 1 ≤ d 0)
    (hc : ∀ k, k < n → w.cell? ⟨g, k, none⟩ = some (.int .u8 (48 + (d k : Int)))) :
    Calls Tryd.prog 11 #[.slice (some ⟨g, 0, none⟩) n c] w fun e w' => e = .returned (.tuple #[.int .u64 (acc n), .bool true]) ∧ w' = w := by
  have h0 := hc 0 (by omega)
  have hd0 := hd 0
  have HS : Hid (∀ k, k < n → acc (k + 1) = acc k * 10 + d k) := hstep
  have HA : Hid (acc 0 = 0) := ha0
  have HC : Hid (∀ k, k < n → w.cell? ⟨g, k, none⟩ = some (.int .u8 (48 + (d k : Int)))) := hc
  have HD : Hid (∀ k, d k ≤ 9) := hd
  have HB : Hid (∀ k, k ≤ n → acc k ≤ 18446744073709551615) := hacc
  have hb0 : ((n : Int) == 0) = false := by simp; omega
  have key : ∀ (h1 : 1 < n → (48 + (d 0 : Int) == 48) = false), Calls Tryd.prog 11 #[.slice (some ⟨g, 0, none⟩) n c] w fun e w' => e = .returned (.tuple #[.int .u64 (acc n), .bool true]) ∧ w' = w := by
    intro h1
    clear hstep ha0 hc hd hacc hlead
    go_enter Tryd.func11, Tryd.ntmps11
    by_cases hn : 1 < n
    all_goals
      (try have hx := h1 hn)
      clear h1
      go_wp2
      go_loop [4, 5] (fun v i => ∃ k : Nat, k ≤ n ∧ i = .int .i64 k ∧ v = .int .u64 (acc k)) (fun _ i => n - (intOf i).toNat)
      case atStart => exact ⟨0, by omega, rfl, by rw [HA.out]; rfl⟩
      case round =>
        obtain ⟨k, hk, rfl, rfl⟩ := hrel
        by_cases hlt : k < n
        · have hck := HC.out k hlt
          have hdk := HD.out k
          have hs := HS.out k hlt
          have hak := HB.out (k + 1) (by omega)
          have hk2 : acc k * 10 + d k ≤ 18446744073709551615 := by omega
          have HS' : Hid (acc (k + 1) = acc k * 10 + d k) := hs
          clear hs hak
          go_wp2
          go_round
          case rel => exact ⟨k + 1, by omega, by go_num, by rw [HS'.out]; go_num⟩
          case measure => simp [intOf]; omega
        · obtain rfl : k = n := by omega
          go_wp2
          go_ret2
          exact ⟨rfl, rfl⟩
  exact key (fun h => by have := hlead h; simp; omega)
end Go.Proofs.Qxb6616074aDoor
