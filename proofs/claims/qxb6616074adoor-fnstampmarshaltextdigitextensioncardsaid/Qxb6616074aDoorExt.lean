/-
  THE SEAT b6616074aD: the walk of the law 'FnStampMarshalTextDigitExtension'. By an AI agent.
-/
import Derived.Test.Qxb6616074aDoorEq
namespace Go.Proofs.Qxb6616074aDoor
open Go.RowKit

/-- Stamp.MarshalText, its result as a row of bytes. -/
theorem marshal_row (u : Nat) (hu64 : u < 18446744073709551616) (w : World)
    (htab : Lib.TabIs Tryd.prog w powName .u64 Lib.pow10Tab) :
    Calls Tryd.prog 15 #[.int .u64 u] w fun e w' => ∃ g c, e = .returned (.tuple #[.slice (some ⟨g, 0, none⟩) (Lib.decDigits u).length c, .nilIface]) ∧ (Lib.decDigits u).length ≤ c ∧ c ≤ maxLen ∧ w.heap.size ≤ g ∧ g < w'.heap.size ∧
      (∀ k (hk : k < (Lib.decDigits u).length), w'.cell? ⟨g, k, none⟩ = some (.int .u8 ((Lib.decDigits u)[k].toNat : Int))) ∧ Below w.heap.size w w' := by
  refine (marshal_any u hu64 w htab).mono ?_
  rintro e w' ⟨v', rfl, hown, hB⟩
  obtain ⟨g, c, rfl, h1, h2, h3, h4, _, h6⟩ := row_of hown (by rw [Lib.decDigits_length]; exact Lib.nDigits_pos u)
  exact ⟨g, c, rfl, h1, h2, h3, h4, h6, hB⟩

set_option maxHeartbeats 800000 in
theorem ext_early (s d : Int) (w : World) (hs0 : 0 ≤ s) (hd0 : 0 ≤ d) (h : 9 < d ∨ s = 0 ∨ 1844674407370955160 < s) :
    Calls Tryd.prog 6 #[.int .u64 s, .int .u64 d] w fun e w' => e = .returned (.bool true) ∧ Below w.heap.size w w' := by
  by_cases h1 : 9 < d
  · clear h
    go_enter Tryd.func6, Tryd.ntmps6
    go_wp2
    go_ret
    exact ⟨rfl, Below.refl _ _⟩
  · by_cases h2 : s = 0
    · subst h2
      clear h
      go_enter Tryd.func6, Tryd.ntmps6
      go_wp2
      go_ret
      exact ⟨rfl, Below.refl _ _⟩
    · have h3 : 1844674407370955160 < s := by omega
      have h4 : (s == 0) = false := by simpa using h2
      clear h h2
      go_enter Tryd.func6, Tryd.ntmps6
      go_wp2
      go_ret
      exact ⟨rfl, Below.refl _ _⟩

/-- bytesEq of two rows that hold one list. -/
theorem eq_list (l : List UInt8) (g o c g' o' c' : Nat) (w : World) (hn : l.length ≤ maxLen)
    (h1 : ∀ k (hk : k < l.length), w.cell? ⟨g, o + k, none⟩ = some (.int .u8 (l[k].toNat : Int))) (h2 : ∀ k (hk : k < l.length), w.cell? ⟨g', o' + k, none⟩ = some (.int .u8 (l[k].toNat : Int))) :
    Calls Tryd.prog 10 #[.slice (some ⟨g, o, none⟩) l.length c, .slice (some ⟨g', o', none⟩) l.length c'] w fun e w' => e = .returned (.bool true) ∧ ∃ q, w' = w.drewN q :=
  eq_rows g o c g' o' c' l.length (fun k => ((l.getD k 0).toNat : Int)) w hn (fun k hk => by rw [h1 k hk]; simp [hk]) (fun k hk => by rw [h2 k hk]; simp [hk])

/-- The text of 10*u+e, told by u's. -/
theorem marshal_snoc (u e : Nat) (hu1 : 1 ≤ u) (hu2 : u ≤ 1844674407370955160) (he : e ≤ 9) (w : World)
    (htab : Lib.TabIs Tryd.prog w powName .u64 Lib.pow10Tab) :
    Calls Tryd.prog 15 #[.int .u64 ((u : Int) * 10 + (e : Int))] w fun x w' => ∃ g c, x = .returned (.tuple #[.slice (some ⟨g, 0, none⟩) ((Lib.decDigits u).length + 1) c, .nilIface]) ∧ (Lib.decDigits u).length + 1 ≤ c ∧ c ≤ maxLen ∧ w.heap.size ≤ g ∧ g < w'.heap.size ∧
      (∀ k (hk : k < (Lib.decDigits u).length), w'.cell? ⟨g, k, none⟩ = some (.int .u8 ((Lib.decDigits u)[k].toNat : Int))) ∧ w'.cell? ⟨g, (Lib.decDigits u).length, none⟩ = some (.int .u8 (48 + (e : Int))) ∧ Below w.heap.size w w' := by
  have H := marshal_row (u * 10 + e) (by omega) w htab
  rw [show ((u * 10 + e : Nat) : Int) = (u : Int) * 10 + (e : Int) from by omega] at H
  refine H.mono ?_
  rintro x w' ⟨g, c, rfl, h1, h2, h3, h4, h5, h6⟩
  have hl : (Lib.decDigits (u * 10 + e)).length = (Lib.decDigits u).length + 1 := by rw [dec_snoc u e hu1 he]; simp
  rw [hl] at h1
  refine ⟨g, c, by rw [hl], h1, h2, h3, h4, fun k hk => ?_, ?_, h6⟩
  · rw [h5 k (by omega)]
    have : (Lib.decDigits (u * 10 + e))[k]'(by omega) = (Lib.decDigits u)[k] := by
      have h7 : (Lib.decDigits (u * 10 + e))[k]? = (Lib.decDigits u)[k]? := by rw [dec_snoc u e hu1 he, List.getElem?_append_left hk]
      rw [List.getElem?_eq_getElem (by omega), List.getElem?_eq_getElem hk] at h7
      exact Option.some.inj h7
    rw [this]
  · rw [h5 (Lib.decDigits u).length (by omega)]
    have h7 : (Lib.decDigits (u * 10 + e))[(Lib.decDigits u).length]'(by omega) = UInt8.ofNat (48 + e) := by
      have h8 : (Lib.decDigits (u * 10 + e))[(Lib.decDigits u).length]? = some (UInt8.ofNat (48 + e)) := by rw [dec_snoc u e hu1 he]; simp
      rw [List.getElem?_eq_getElem (by omega)] at h8
      exact Option.some.inj h8
    rw [h7]
    have h9 : (UInt8.ofNat (48 + e)).toNat = 48 + e := by rw [UInt8.toNat_ofNat']; omega
    rw [h9]
    rfl

set_option maxHeartbeats 1600000 in
theorem ext_main (u e : Nat) (w : World) (hu1 : 1 ≤ u) (hu2 : u ≤ 1844674407370955160) (he : e ≤ 9)
    (htab : Lib.TabIs Tryd.prog w powName .u64 Lib.pow10Tab) :
    Calls Tryd.prog 6 #[.int .u64 u, .int .u64 e] w fun e w' => e = .returned (.bool true) ∧ Below w.heap.size w w' := by
  have H1 := Lib.hid (marshal_row u (by omega) w htab)
  have HT := Lib.hid (Lib.tabBelow_of_tabIs htab)
  have h4 : ((u : Int) == 0) = false := by simp; omega
  have hL : (Lib.decDigits u).length ≤ 20 := dig_le20 u (by omega)
  have hL0 : 0 < (Lib.decDigits u).length := by rw [Lib.decDigits_length]; exact Lib.nDigits_pos u
  clear htab
  go_enter Tryd.func6, Tryd.ntmps6
  go_wp2_with fail
  refine H1.out.mono ?_
  rintro e1 w1 ⟨g1, c1, rfl, hl1, hm1, hg1, hz1, hc1, hB1⟩
  have H2 := Lib.hid (marshal_snoc u e hu1 hu2 he w1 (HT.out w1 hB1))
  have C1 := Lib.hid hc1
  clear H1 hc1
  go_wp2_with fail
  refine H2.out.mono ?_
  rintro e2 w2 ⟨g2, c2, rfl, hl2, hm2, hg2, hz2, hc2, hlast, hB2⟩
  have C2 := Lib.hid hc2
  have C3 := Lib.hid (fun k (hk : k < (Lib.decDigits u).length) => (show w2.cell? ⟨g1, k, none⟩ = some (.int .u8 ((Lib.decDigits u)[k].toNat : Int)) by rw [hB2.cell (p := ⟨g1, k, none⟩) hz1]; exact C1.out k hk))
  have HB := Lib.hid (hB1.trans (hB2.mono hB1.size))
  have P1 := Lib.hid (parse_dec u (by omega) g1 c1 w2 C3.out)
  clear hc2 hB1 hB2 H2
  go_wp2_with fail
  refine P1.out.mono ?_
  rintro e3 w3 ⟨rfl, rfl⟩
  have QE := Lib.hid (eq_list (Lib.decDigits u) g2 0 c2 g1 0 c1 w3 (by unfold maxLen; omega) (fun k hk => by rw [Nat.zero_add]; exact C2.out k hk) (fun k hk => by rw [Nat.zero_add]; exact C3.out k hk))
  clear C1 C2 C3 P1 HT
  unfold maxLen at hm1 hm2
  go_wp2_with fail
  refine QE.out.mono ?_
  rintro e4 w4 ⟨rfl, q, rfl⟩
  go_wp2
  go_ret
  have hb := HB.out
  exact ⟨rfl, ⟨hb.os, hb.tape, hb.output, hb.size, hb.block⟩⟩

theorem ext_any (s d : Int) (w : World) (hs : (Lit.int .u64 s).wf = true) (hd : (Lit.int .u64 d).wf = true)
    (htab : Lib.TabIs Tryd.prog w powName .u64 Lib.pow10Tab) :
    Calls Tryd.prog 6 #[.int .u64 s, .int .u64 d] w fun e w' => e = .returned (.bool true) ∧ Below w.heap.size w w' := by
  simp [Lit.wf, IntKind.min, IntKind.max, IntKind.signed, IntKind.bits] at hs hd
  by_cases h : 9 < d ∨ s = 0 ∨ 1844674407370955160 < s
  · exact ext_early s d w (by omega) (by omega) h
  · obtain ⟨u, rfl⟩ := Int.eq_ofNat_of_zero_le (show 0 ≤ s by omega)
    obtain ⟨e, rfl⟩ := Int.eq_ofNat_of_zero_le (show 0 ≤ d by omega)
    exact ext_main u e w (by omega) (by omega) (by omega) htab
end Go.Proofs.Qxb6616074aDoor
