/-
  THE SEAT b6615813aF: the walks of Name, String, Join's use, Parse and ParseKind. By an AI agent.
-/
import Derived.Test.Qxb6615813aFmtFacts
import Derived.Test.Qxb6615813aFmtShelf
import Derived.WalkKit
import Derived.WalkSpells
import Derived.WalkLawsBesides
import Derived.Below
namespace Go.Proofs.Qxb6615813aFmt
open Go.RowKit Go.Extern.Stop Go.Stop Go.Extern

/-- The three names. -/
def sOff : ByteArray := ⟨#[111, 102, 102]⟩
def sToken : ByteArray := ⟨#[116, 111, 107, 101, 110]⟩
def sLeaky : ByteArray := ⟨#[108, 101, 97, 107, 121]⟩
def sLimiter : ByteArray := ⟨#[108, 105, 109, 105, 116, 101, 114]⟩

/-- 'kindNames' as it lies in memory: its block is 0; its names lie in block b from o on. -/
def Tab (b o c : Nat) (w : World) : Prop :=
  w.cell? ⟨0, 0, none⟩ = some (.string sLimiter) ∧ w.cell? ⟨0, 1, none⟩ = some (.slice (some ⟨b, o, none⟩) 3 c) ∧
  w.cell? ⟨b, o, none⟩ = some (.string sOff) ∧ w.cell? ⟨b, o + 1, none⟩ = some (.string sToken) ∧ w.cell? ⟨b, o + 2, none⟩ = some (.string sLeaky) ∧
  b < w.heap.size ∧ 0 < w.heap.size ∧ 3 ≤ c ∧ c ≤ maxLen

theorem Tab.below {b o c : Nat} {W w : World} (h : Tab b o c W) (hb : Below W.heap.size W w) : Tab b o c w := by
  obtain ⟨h0, h1, h2, h3, h4, h5, h6, h7, h8⟩ := h
  have hz := hb.size
  refine ⟨?_, ?_, ?_, ?_, ?_, by omega, by omega, h7, h8⟩
  · rw [hb.cell (p := ⟨0, 0, none⟩) h6]; exact h0
  · rw [hb.cell (p := ⟨0, 1, none⟩) h6]; exact h1
  · rw [hb.cell (p := ⟨b, o, none⟩) h5]; exact h2
  · rw [hb.cell (p := ⟨b, o + 1, none⟩) h5]; exact h3
  · rw [hb.cell (p := ⟨b, o + 2, none⟩) h5]; exact h4

theorem Tab.alloc {b o c : Nat} {W : World} (h : Tab b o c W) (x : Obj) : Tab b o c (W.alloc x) := h.below ((Below.refl _ _).alloc (Nat.le_refl _) _)

set_option maxHeartbeats 400000 in
theorem name_any (k : Nat) (hk : k < 3) (nm : ByteArray) (b o c : Nat) (w : World) (hb : b < w.heap.size) (hc : w.cell? ⟨b, o + k, none⟩ = some (.string nm)) :
    Calls Tryf.prog 10 #[.agg #[.string sLimiter, .slice (some ⟨b, o, none⟩) 3 c], .int .u8 k] w fun e w' => e = .returned (.string nm) ∧ Below w.heap.size w w' := by
  go_enter Tryf.func10, Tryf.ntmps10
  go_wp2
  go_ret
  exact ⟨rfl, (Below.refl _ _).alloc (Nat.le_refl _) _⟩

set_option maxHeartbeats 400000 in
theorem string_any (k : Nat) (hk : k < 3) (nm : ByteArray) (b o c : Nat) (w : World) (ht : Tab b o c w) (hc : w.cell? ⟨b, o + k, none⟩ = some (.string nm)) :
    Calls Tryf.prog 7 #[.int .u8 k] w fun e w' => e = .returned (.string nm) ∧ Below w.heap.size w w' := by
  obtain ⟨h0, h1, h2, h3, h4, h5, h6, h7, h8⟩ := ht
  go_enter Tryf.func7, Tryf.ntmps7
  go_wp2_with (go_at_call 10; refine (name_any k hk nm b o c _ h5 hc).mono ?_; rintro e w' ⟨rfl, hbel⟩)
  go_ret
  exact ⟨rfl, by assumption⟩

/-- No name of the three. -/
def Miss (s : ByteArray) : Prop := (s.toList == sOff.toList) = false ∧ (s.toList == sToken.toList) = false ∧ (s.toList == sLeaky.toList) = false

/-- strings.Join of the first two names: some string of ten bytes. -/
theorem join2 (b o c : Nat) (w : World) (ht : Tab b o c w) :
    Calls Tryf.prog 11 #[.slice (some ⟨b, o, none⟩) 2 c, .string ⟨#[44, 32]⟩] w fun e w' => ∃ t : ByteArray, e = .returned (.string t) ∧ t.size ≤ 1000 ∧ Below w.heap.size w w' := by
  obtain ⟨h0, h1, h2, h3, h4, h5, h6, h7, h8⟩ := ht
  refine (Tryf.strings_Join b o c [sOff, sToken] ⟨#[44, 32]⟩ w ?_ h5 (by simp) (by simp; omega) (by decide +kernel)).mono ?_
  · intro j x hj
    match j, hj with
    | 0, hj => simp at hj; subst hj; exact h2
    | 1, hj => simp at hj; subst hj; exact h3
  · rintro e w' ⟨rfl, hB⟩
    exact ⟨_, rfl, by decide +kernel, hB⟩

set_option maxHeartbeats 400000 in
theorem parse_miss (F : Interp) (s : ByteArray) (b o c : Nat) (w : World) (hF : F.answers w.tape) (ht : Tab b o c w) (hm : Miss s) :
    Calls Tryf.prog 9 #[.agg #[.string sLimiter, .slice (some ⟨b, o, none⟩) 3 c], .string s] w fun e w' => ∃ a : Addr, e = .returned (.tuple #[.int .u8 0, .iface 49 (.pointer (some a))]) ∧ Below w.heap.size w w' := by
  obtain ⟨h0, h1, h2, h3, h4, h5, h6, h7, h8⟩ := ht
  go_enter Tryf.func9, Tryf.ntmps9
  go_wp2
  go_loop [12] (fun i => ∃ k : Nat, k ≤ 3 ∧ i = .int .i64 k) (fun i => 3 - (intOf i).toNat)
  case atStart => exact ⟨0, by omega, rfl⟩
  case round =>
    obtain ⟨k, hk, rfl⟩ := hrel
    by_cases hlt : k < 3
    · obtain ⟨nm, hcx, hne⟩ : ∃ nm : ByteArray, w.cell? ⟨b, o + k, none⟩ = some (.string nm) ∧ (s.toList == nm.toList) = false := by
        rcases k with _ | _ | _ | k
        · exact ⟨_, h2, hm.1⟩
        · exact ⟨_, h3, hm.2.1⟩
        · exact ⟨_, h4, hm.2.2⟩
        · omega
      go_wp2
      go_round
      case rel => exact ⟨k + 1, by omega, by go_num⟩
      case measure => simp [intOf]; omega
    · go_wp2_with fail
      refine (join2 b o c _ (Tab.alloc ⟨h0, h1, h2, h3, h4, h5, h6, h7, h8⟩ _)).mono ?_
      rintro e w1 ⟨t, rfl, hts, hbel⟩
      have hB : Below w.heap.size w w1 := ((Below.refl _ _).alloc (Nat.le_refl _) _).trans (hbel.mono (by simp))
      have hz : w.heap.size < w1.heap.size := by have := hbel.size; simp at this; omega
      have hn0 : w1.cell? ⟨w.heap.size, 0, none⟩ = some (.string sLimiter) := by rw [hbel.cell (p := ⟨w.heap.size, 0, none⟩) (by simp)]; simp
      have hn1 : w1.cell? ⟨w.heap.size, 1, none⟩ = some (.slice (some ⟨b, o, none⟩) 3 c) := by rw [hbel.cell (p := ⟨w.heap.size, 1, none⟩) (by simp)]; simp
      have hF1 : F.answers w1.tape := by rw [hB.tape]; exact hF
      clear hbel
      have hl5 : sLeaky.size ≤ 5 := by decide
      go_wp2_with fail
      refine (errorf_any F sLimiter s _ w1.heap.size _ (by exact hF1) (by simp) (by simp) (by simp; rfl)).mono ?_
      rintro e w2 ⟨a, rfl, hbel2⟩
      have hB2 : Below w.heap.size w w2 := (hB.alloc (by omega) _).trans (hbel2.mono (by simp; omega))
      clear hbel2
      go_wp2
      go_ret2
      exact ⟨a, rfl, hB2⟩

set_option maxHeartbeats 400000 in
/-- ParseKind at a string that is no name: the zero kind and an error. -/
theorem kind_miss (F : Interp) (s : ByteArray) (b o c : Nat) (w : World) (hF : F.answers w.tape) (ht : Tab b o c w) (hm : Miss s) :
    Calls Tryf.prog 6 #[.string s] w fun e w' => ∃ a : Addr, e = .returned (.tuple #[.int .u8 0, .iface 49 (.pointer (some a))]) ∧ Below w.heap.size w w' := by
  have ht' := ht
  obtain ⟨h0, h1, h2, h3, h4, h5, h6, h7, h8⟩ := ht
  go_enter Tryf.func6, Tryf.ntmps6
  go_wp2_with fail
  refine (parse_miss F s b o c w hF ht' hm).mono ?_
  rintro e w' ⟨a, rfl, hbel⟩
  go_wp2
  go_ret2
  exact ⟨a, rfl, hbel⟩

set_option maxHeartbeats 400000 in
theorem parse_hit (j : Nat) (hj : j < 3) (s : ByteArray) (b o c : Nat) (w : World) (ht : Tab b o c w) (hs : (if j = 0 then sOff else if j = 1 then sToken else sLeaky) = s) :
    Calls Tryf.prog 9 #[.agg #[.string sLimiter, .slice (some ⟨b, o, none⟩) 3 c], .string s] w fun e w' => e = .returned (.tuple #[.int .u8 j, .nilIface]) ∧ Below w.heap.size w w' := by
  obtain ⟨h0, h1, h2, h3, h4, h5, h6, h7, h8⟩ := ht
  have HS : Hid ((if j = 0 then sOff else if j = 1 then sToken else sLeaky) = s) := hs
  clear hs
  go_enter Tryf.func9, Tryf.ntmps9
  go_wp2
  go_loop [12] (fun i => ∃ k : Nat, k ≤ j ∧ i = .int .i64 k) (fun i => 3 - (intOf i).toNat)
  case atStart => exact ⟨0, by omega, rfl⟩
  case round =>
    obtain ⟨k, hk, rfl⟩ := hrel
    by_cases hlt : k < j
    · obtain ⟨nm, hcx, hne⟩ : ∃ nm : ByteArray, w.cell? ⟨b, o + k, none⟩ = some (.string nm) ∧ (s.toList == nm.toList) = false := by
        have h := HS.out
        subst h
        rcases j with _ | _ | _ | j
        · omega
        · obtain rfl : k = 0 := by omega
          exact ⟨_, h2, by decide +kernel⟩
        · rcases k with _ | _ | k
          · exact ⟨_, h2, by decide +kernel⟩
          · exact ⟨_, h3, by decide +kernel⟩
          · omega
        · omega
      go_wp2
      go_round
      case rel => exact ⟨k + 1, by omega, by go_num⟩
      case measure => simp [intOf]; omega
    · obtain rfl : k = j := by omega
      have hcx : w.cell? ⟨b, o + k, none⟩ = some (.string s) := by
        have h := HS.out
        subst h
        rcases k with _ | _ | _ | k
        · exact h2
        · exact h3
        · exact h4
        · omega
      go_wp2
      go_ret2
      exact ⟨rfl, (Below.refl _ _).alloc (Nat.le_refl _) _⟩

set_option maxHeartbeats 400000 in
/-- ParseKind at the j-th name: that kind and no error. -/
theorem kind_hit (j : Nat) (hj : j < 3) (s : ByteArray) (b o c : Nat) (w : World) (ht : Tab b o c w) (hs : (if j = 0 then sOff else if j = 1 then sToken else sLeaky) = s) :
    Calls Tryf.prog 6 #[.string s] w fun e w' => e = .returned (.tuple #[.int .u8 j, .nilIface]) ∧ Below w.heap.size w w' := by
  have ht' := ht
  have HS : Hid ((if j = 0 then sOff else if j = 1 then sToken else sLeaky) = s) := hs
  clear hs
  obtain ⟨h0, h1, h2, h3, h4, h5, h6, h7, h8⟩ := ht
  go_enter Tryf.func6, Tryf.ntmps6
  go_wp2_with fail
  refine (parse_hit j hj s b o c w ht' HS.out).mono ?_
  rintro e w' ⟨rfl, hbel⟩
  go_wp2
  go_ret2
  exact ⟨rfl, hbel⟩
end Go.Proofs.Qxb6615813aFmt
