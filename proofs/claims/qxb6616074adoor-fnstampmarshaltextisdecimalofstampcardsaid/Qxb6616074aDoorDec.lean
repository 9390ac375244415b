/-
  THE SEAT b6616074aD: the walk of the law 'FnStampMarshalTextIsDecimalOfStamp'. By an AI agent.
-/
import Derived.Test.Qxb6616074aDoorClone
import Derived.Test.Qxb6616074aDoorExt

namespace Go.Proofs.Qxb6616074aDoor
open Go.RowKit

theorem byteCells_append (l m : List UInt8) : Lib.byteCells (l ++ m) = Lib.byteCells l ++ Lib.byteCells m := by simp [Lib.byteCells]
theorem byteCells_one (l : List UInt8) : ∀ v ∈ Lib.byteCells l, v.oneCell' = true := by
  intro v hv
  simp only [Lib.byteCells, List.mem_map] at hv
  obtain ⟨b, _, rfl⟩ := hv
  rfl
theorem byteCells_at (l : List UInt8) (k : Nat) (hk : k < l.length) : (Lib.byteCells l)[k]? = some (.int .u8 (l[k].toNat : Int)) := by simp [Lib.byteCells, hk]

/-- Stamp.AppendText onto a slice of the call's own, its result as a row of bytes. -/
theorem text_row (B u : Nat) (hu64 : u < 18446744073709551616) (sv : Value) (l : List UInt8) (w : World) (hown : w.ownsRow B 5 1 sv l.length (Lib.byteCells l)) (hBw : B ≤ w.heap.size) (hlim : l.length ≤ 1048576)
    (htab : Lib.TabIs Tryd.prog w powName .u64 Lib.pow10Tab) :
    Calls Tryd.prog 9 #[.int .u64 u, sv] w fun e w' => ∃ g c, e = .returned (.tuple #[.slice (some ⟨g, 0, none⟩) (l.length + (Lib.decDigits u).length) c, .nilIface]) ∧ l.length + (Lib.decDigits u).length ≤ c ∧ c ≤ maxLen ∧ g < w'.heap.size ∧
      (∀ k (hk : k < l.length), w'.cell? ⟨g, k, none⟩ = some (.int .u8 (l[k].toNat : Int))) ∧ (∀ k (hk : k < (Lib.decDigits u).length), w'.cell? ⟨g, l.length + k, none⟩ = some (.int .u8 ((Lib.decDigits u)[k].toNat : Int))) ∧ w.grownBy w' sv.ownBlock := by
  refine (text_any B l.length u hu64 sv (Lib.byteCells l) w hown hBw (by omega) htab).mono ?_
  rintro e w' ⟨v', rfl, hown', hg⟩
  rw [← byteCells_append] at hown'
  have hp : 1 ≤ (Lib.decDigits u).length := by rw [Lib.decDigits_length]; exact Lib.nDigits_pos u
  obtain ⟨g, c, rfl, h1, h2, _, h4, h5, h6⟩ := row_of hown' (by omega)
  refine ⟨g, c, rfl, h1, h2, h4, fun k hk => ?_, fun k hk => ?_, hg⟩
  · rw [h6 k (by simp; omega), List.getElem_append_left hk]
  · rw [h6 (l.length + k) (by simp; omega)]
    have : (l ++ Lib.decDigits u)[l.length + k]'(by simp; omega) = (Lib.decDigits u)[k] := by
      rw [List.getElem_append_right (by omega)]; simp
    rw [this]

set_option maxHeartbeats 1600000 in
theorem dec_some (u : Nat) (hu64 : u < 18446744073709551616) (x : Addr) (cap : Nat) (l : List UInt8) (w : World) (hl : l.length ≤ 1048576)
    (hcell : ∀ j v, (Lib.byteCells l)[j]? = some v → w.cell? (x.add j) = some v)
    (htab : Lib.TabIs Tryd.prog w powName .u64 Lib.pow10Tab) :
    Calls Tryd.prog 5 #[.int .u64 u, .slice (some x) l.length cap] w fun e w' => e = .returned (.bool true) ∧ Below w.heap.size w w' := by
  have HT := Lib.hid (Lib.tabBelow_of_tabIs htab)
  have K1 := Lib.hid (clone_some x l.length cap (Lib.byteCells l) w (Lib.byteCells_length l) hl hcell (byteCells_one l))
  have hL : (Lib.decDigits u).length ≤ 20 := dig_le20 u (by omega)
  have hL0 : 0 < (Lib.decDigits u).length := by rw [Lib.decDigits_length]; exact Lib.nDigits_pos u
  clear htab hcell
  go_enter Tryd.func5, Tryd.ntmps5
  go_wp2_with (go_at_call 14; go_in)
  refine K1.out.mono ?_
  rintro e1 w1 ⟨rfl, hown1, hB1⟩
  have hz1 : w.heap.size < w1.heap.size := (hown1.lt w.heap.size rfl).2
  have K2 := Lib.hid (clone_some ⟨w.heap.size, 0, none⟩ l.length l.length (Lib.byteCells l) w1 (Lib.byteCells_length l) hl (hown1.cells rfl) (byteCells_one l))
  have O1 := Lib.hid hown1
  clear K1 hown1
  go_wp2_with fail
  refine K2.out.mono ?_
  rintro e2 w2 ⟨rfl, hown2, hB2⟩
  have hz2 : w1.heap.size < w2.heap.size := (hown2.lt w1.heap.size rfl).2
  have hb12 := hB1.trans (hB2.mono hB1.size)
  have K3 := Lib.hid (marshal_row u hu64 w2 (HT.out w2 hb12))
  have O1' : Hid (w2.ownsRow w.heap.size 5 1 (.slice (some ⟨w.heap.size, 0, none⟩) l.length l.length) l.length (Lib.byteCells l)) :=
    O1.out.kept ⟨hB2.os, hB2.tape, hB2.output, hB2.size, fun k hk _ => hB2.block k hk⟩ (Or.inr (by simp [Value.ownBlock] : Value.ownBlock _ ≠ none))
  have O2 := Lib.hid hown2
  clear K2 hown2 O1
  go_wp2_with fail
  refine K3.out.mono ?_
  rintro e3 w3 ⟨g3, c3, rfl, hl3, hm3, hg3, hz3, hc3, hB3⟩
  have hb13 := hb12.trans (hB3.mono hb12.size)
  have O1'' : Hid (w3.ownsRow w.heap.size 5 1 (.slice (some ⟨w.heap.size, 0, none⟩) l.length l.length) l.length (Lib.byteCells l)) :=
    O1'.out.kept ⟨hB3.os, hB3.tape, hB3.output, hB3.size, fun k hk _ => hB3.block k hk⟩ (Or.inr (by simp [Value.ownBlock] : Value.ownBlock _ ≠ none))
  have O2' : Hid (w3.ownsRow w1.heap.size 5 1 (.slice (some ⟨w1.heap.size, 0, none⟩) l.length l.length) l.length (Lib.byteCells l)) :=
    O2.out.kept ⟨hB3.os, hB3.tape, hB3.output, hB3.size, fun k hk _ => hB3.block k hk⟩ (Or.inr (by simp [Value.ownBlock] : Value.ownBlock _ ≠ none))
  have P1 := Lib.hid (parse_dec u hu64 g3 c3 w3 hc3)
  have K4 := Lib.hid (text_row w.heap.size u hu64 (.slice (some ⟨w.heap.size, 0, none⟩) l.length l.length) l w3 O1''.out hb13.size hl (HT.out w3 hb13))
  have C3 := Lib.hid hc3
  clear K3 O1' O1'' O2 hc3 HT
  go_wp2_with fail
  refine P1.out.mono ?_
  rintro e4 w4 ⟨rfl, rfl⟩
  clear P1
  go_wp2_with fail
  refine K4.out.mono ?_
  rintro e5 w5 ⟨g5, c5, rfl, hl5, hm5, hz5, hA5, hD5, hg5⟩
  have hne : g3 ≠ w.heap.size := by omega
  have E1 := Lib.hid (eq_list l g5 0 c5 w1.heap.size 0 l.length w5 (by unfold maxLen; omega) (fun k hk => by rw [Nat.zero_add]; exact hA5 k hk)
    (fun k hk => by
      rw [Nat.zero_add]
      have h1 := World.ownsRow.cellAt O2'.out k (by omega)
      rw [byteCells_at l k hk] at h1
      exact hg5.cell h1 (by simp [Value.ownBlock]; omega)))
  have E2 := Lib.hid (fun q => eq_list (Lib.decDigits u) g5 l.length (c5 - l.length) g3 0 c3 (w5.drewN q) (by unfold maxLen; omega) (fun k hk => by rw [World.cell?_drewN]; exact hD5 k hk)
    (fun k hk => by rw [World.cell?_drewN, Nat.zero_add]; exact hg5.cell (C3.out k hk) (by simp [Value.ownBlock]; omega)))
  have HB : Hid (Below w.heap.size w w5) := hb13.trans ⟨hg5.os, hg5.tape, hg5.output, hg5.size, fun k hk => hg5.block k (by have := hb13.size; omega) (by simp [Value.ownBlock]; omega)⟩
  clear K4 hA5 hD5 hg5 C3 O2' hB1 hB2 hB3 hb12 hb13
  unfold maxLen at hm3 hm5
  go_wp2_with fail
  refine E1.out.mono ?_
  rintro e6 w6 ⟨rfl, q, rfl⟩
  go_wp2_with fail
  refine (E2.out q).mono ?_
  rintro e7 w7 ⟨rfl, q', rfl⟩
  go_wp2
  go_ret
  have hb := HB.out
  exact ⟨rfl, ⟨hb.os, hb.tape, hb.output, hb.size, hb.block⟩⟩

/-- Stamp.AppendText onto nil. -/
theorem text_nil (u : Nat) (hu64 : u < 18446744073709551616) (w : World)
    (htab : Lib.TabIs Tryd.prog w powName .u64 Lib.pow10Tab) :
    Calls Tryd.prog 9 #[.int .u64 u, .slice none 0 0] w fun e w' => ∃ g c, e = .returned (.tuple #[.slice (some ⟨g, 0, none⟩) (Lib.decDigits u).length c, .nilIface]) ∧ (Lib.decDigits u).length ≤ c ∧ c ≤ maxLen ∧ g < w'.heap.size ∧
      (∀ k (hk : k < (Lib.decDigits u).length), w'.cell? ⟨g, k, none⟩ = some (.int .u8 ((Lib.decDigits u)[k].toNat : Int))) ∧ Below w.heap.size w w' := by
  refine (text_row w.heap.size u hu64 (.slice none 0 0) [] w (World.ownsRow_nil _ _ _ _) (Nat.le_refl _) (by simp) htab).mono ?_
  rintro e w' ⟨g, c, rfl, h1, h2, h3, _, h5, h6⟩
  exact ⟨g, c, by simp, by simpa using h1, h2, h3, fun k hk => by simpa using h5 k hk, ⟨h6.os, h6.tape, h6.output, h6.size, fun k hk => h6.block k hk (by simp [Value.ownBlock])⟩⟩

set_option maxHeartbeats 1600000 in
theorem dec_nil (u : Nat) (hu64 : u < 18446744073709551616) (w : World)
    (htab : Lib.TabIs Tryd.prog w powName .u64 Lib.pow10Tab) :
    Calls Tryd.prog 5 #[.int .u64 u, .slice none 0 0] w fun e w' => e = .returned (.bool true) ∧ Below w.heap.size w w' := by
  have HT := Lib.hid (Lib.tabBelow_of_tabIs htab)
  have hL : (Lib.decDigits u).length ≤ 20 := dig_le20 u (by omega)
  have hL0 : 0 < (Lib.decDigits u).length := by rw [Lib.decDigits_length]; exact Lib.nDigits_pos u
  have K3 := Lib.hid (marshal_row u hu64 w htab)
  clear htab
  go_enter Tryd.func5, Tryd.ntmps5
  go_wp2_with (first | (go_at_call 14; go_in) | (go_at_call 8; refine (clone_nil _).mono ?_; rintro e1 w1 ⟨rfl, hw⟩; rw [hw]; clear hw))
  refine K3.out.mono ?_
  rintro e3 w3 ⟨g3, c3, rfl, hl3, hm3, hg3, hz3, hc3, hB3⟩
  have P1 := Lib.hid (parse_dec u hu64 g3 c3 w3 hc3)
  have K4 := Lib.hid (text_nil u hu64 w3 (HT.out w3 hB3))
  have C3 := Lib.hid hc3
  clear K3 hc3 HT
  go_wp2_with fail
  refine P1.out.mono ?_
  rintro e4 w4 ⟨rfl, rfl⟩
  clear P1
  go_wp2_with fail
  refine K4.out.mono ?_
  rintro e5 w5 ⟨g5, c5, rfl, hl5, hm5, hz5, hD5, hB5⟩
  have E1 := Lib.hid (eq_empty (some ⟨g5, 0, none⟩) none c5 0 w5)
  have E2 := Lib.hid (fun q => eq_list (Lib.decDigits u) g5 0 c5 g3 0 c3 (w5.drewN q) (by unfold maxLen; omega) (fun k hk => by rw [World.cell?_drewN, Nat.zero_add]; exact hD5 k hk)
    (fun k hk => by rw [World.cell?_drewN, Nat.zero_add, hB5.cell (p := ⟨g3, k, none⟩) hz3]; exact C3.out k hk))
  have HB : Hid (Below w.heap.size w w5) := hB3.trans (hB5.mono hB3.size)
  clear K4 hD5 C3 hB3 hB5
  unfold maxLen at hm3 hm5
  go_wp2_with fail
  refine E1.out.mono ?_
  rintro e6 w6 ⟨rfl, q, rfl⟩
  go_wp2_with fail
  refine (E2.out q).mono ?_
  rintro e7 w7 ⟨rfl, q', rfl⟩
  go_wp2
  go_ret
  have hb := HB.out
  exact ⟨rfl, ⟨hb.os, hb.tape, hb.output, hb.size, hb.block⟩⟩

set_option maxHeartbeats 800000 in
theorem dec_long (s : Int) (a : Option Addr) (n cap : Nat) (w : World) (hn : 1048576 < n) (hm : n ≤ maxLen) :
    Calls Tryd.prog 5 #[.int .u64 s, .slice a n cap] w fun e w' => e = .returned (.bool true) ∧ Below w.heap.size w w' := by
  unfold maxLen at hm
  go_enter Tryd.func5, Tryd.ntmps5
  go_wp2
  all_goals (go_ret; exact ⟨rfl, Below.refl _ _⟩)

/-- WHAT THE WALK IS TOLD OF A SLICE OF INTEGERS THAT CAME IN: it is nil; or it leads to a row of 'cap' cells, the numbers 'zs'. -/
def IsRow (k : IntKind) (w : World) (a : Option Addr) (len cap : Nat) (zs : List Int) : Prop :=
  (a = none ∧ len = 0 ∧ cap = 0 ∧ zs = []) ∨
  ∃ x, a = some x ∧ len ≤ cap ∧ cap ≤ maxLen ∧ zs.length = cap ∧ (∀ i, i < zs.length → w.cell? (x.add i) = some (.int k (zs.getD i 0))) ∧ ∀ n ∈ zs, (Lit.int k n).wf = true

theorem dec_any (s : Int) (a : Option Addr) (n cap : Nat) (zs : List Int) (w : World) (hs : (Lit.int .u64 s).wf = true) (hr : IsRow .u8 w a n cap zs)
    (htab : Lib.TabIs Tryd.prog w powName .u64 Lib.pow10Tab) :
    Calls Tryd.prog 5 #[.int .u64 s, .slice a n cap] w fun e w' => e = .returned (.bool true) ∧ Below w.heap.size w w' := by
  simp [Lit.wf, IntKind.min, IntKind.max, IntKind.signed, IntKind.bits] at hs
  obtain ⟨u, rfl⟩ := Int.eq_ofNat_of_zero_le (show 0 ≤ s by omega)
  rcases hr with ⟨rfl, rfl, rfl, rfl⟩ | ⟨x, rfl, hnc, hcm, hzl, hcell, hwf⟩
  · exact dec_nil u (by omega) w htab
  · by_cases hl : 1048576 < n
    · exact dec_long _ _ n cap w hl (by omega)
    · have hlen : ((zs.take n).map fun z => z.toNat.toUInt8).length = n := by simp; omega
      have h := dec_some u (by omega) x cap ((zs.take n).map fun z => z.toNat.toUInt8) w (by omega) (fun j v hj => by
        have hj1 : j < n := by
          have := (List.getElem?_eq_some_iff.1 hj).1
          rw [Lib.byteCells_length, hlen] at this
          exact this
        have hjz : j < zs.length := by omega
        rw [hcell j hjz]
        have hz := hwf zs[j] (List.getElem_mem _)
        simp [Lit.wf, IntKind.min, IntKind.max, IntKind.signed, IntKind.bits] at hz
        simp [Lib.byteCells, hj1, hjz] at hj
        rw [← hj]
        simp [hjz]
        omega) htab
      rw [hlen] at h
      exact h
end Go.Proofs.Qxb6616074aDoor
