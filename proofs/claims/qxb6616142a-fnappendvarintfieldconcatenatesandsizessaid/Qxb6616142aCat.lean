/-
  THE SEAT b6616142a: the walk of the law 'FnAppendVarintFieldConcatenatesAndSizes'. By an AI agent.
-/
import Derived.Test.Qxb6616142aRowOf
import Derived.Deep.QuietTactic
import Derived.BigQuiet
namespace Go.Proofs.Qxb6616142a
open Go.RowKit

/-- The k-th byte of a list, as a number (0 behind its end). -/
def byt (l : List UInt8) (k : Nat) : Int := ((l.getD k 0).toNat : Int)
theorem byt_at (l : List UInt8) (k : Nat) (hk : k < l.length) : byt l k = (l[k].toNat : Int) := by simp [byt, hk]

/-- ZZappendVarintField onto a slice of the call's own, told by numbers. -/
theorem field_n (B n N F key v : Nat) (hk : key < 18446744073709551616) (hv : v < 18446744073709551616) (sv : Value) (l : List UInt8) (w : World) (hn : l.length = n) (hF : (fld key v).length = F) (hN : n + F = N) (hown : w.ownsRow B 5 1 sv n (Lib.byteCells l)) (hBw : B ≤ w.heap.size) (hlim : n ≤ 2000000) :
    Calls Try.prog 7 #[sv, .int .u64 key, .int .u64 v] w fun e w' => ∃ g c, e = .returned (.slice (some ⟨g, 0, none⟩) N c) ∧ N ≤ c ∧ c ≤ maxLen ∧ g < w'.heap.size ∧
      w'.ownsRow B 5 1 (.slice (some ⟨g, 0, none⟩) N c) N (Lib.byteCells (l ++ fld key v)) ∧
      (∀ k, k < n → w'.cell? ⟨g, k, none⟩ = some (.int .u8 (byt l k))) ∧ (∀ k, k < F → w'.cell? ⟨g, n + k, none⟩ = some (.int .u8 (byt (fld key v) k))) ∧ Below B w w' := by
  subst hn hF hN
  refine (field_row B key v hk hv sv l w hown hBw hlim).mono ?_
  rintro e w' ⟨g, c, rfl, h1, h2, h3, h4, h5, h6, h7⟩
  rw [List.length_append] at h4
  exact ⟨g, c, rfl, h1, h2, h3, h4, fun k hk => by rw [h5 k hk, byt_at l k hk], fun k hk => by rw [h6 k hk, byt_at _ k hk], h7⟩

/-- .. onto nil. -/
theorem field_nil (F key v : Nat) (hk : key < 18446744073709551616) (hv : v < 18446744073709551616) (w : World) (hF : (fld key v).length = F) :
    Calls Try.prog 7 #[.slice none 0 0, .int .u64 key, .int .u64 v] w fun e w' => ∃ g c, e = .returned (.slice (some ⟨g, 0, none⟩) F c) ∧ F ≤ c ∧ c ≤ maxLen ∧ g < w'.heap.size ∧
      (∀ k, k < F → w'.cell? ⟨g, k, none⟩ = some (.int .u8 (byt (fld key v) k))) ∧ Below w.heap.size w w' := by
  refine (field_n w.heap.size 0 F F key v hk hv (.slice none 0 0) [] w rfl hF (by omega) (World.ownsRow_nil _ _ _ _) (Nat.le_refl _) (by omega)).mono ?_
  rintro e w' ⟨g, c, rfl, h1, h2, h3, _, _, h6, h7⟩
  exact ⟨g, c, rfl, h1, h2, h3, fun k hk => by have := h6 k hk; rwa [Nat.zero_add] at this, h7⟩

theorem byt_append_left (l m : List UInt8) (k : Nat) (h : k < l.length) : byt (l ++ m) k = byt l k := by
  rw [byt_at _ k (by simp; omega), byt_at l k h, List.getElem_append_left h]
theorem byt_append_right (l m : List UInt8) (n k : Nat) (hn : l.length = n) (h : k < m.length) : byt (l ++ m) (n + k) = byt m k := by
  subst hn
  rw [byt_at _ _ (by simp; omega), byt_at m k h]
  have : (l ++ m)[l.length + k]'(by simp; omega) = m[k] := by
    rw [List.getElem_append_right (by omega)]; simp
  rw [this]

set_option maxHeartbeats 4000000 in
theorem cat_pos (k1 v1 k2 v2 cap n : Nat) (bb oo : Nat) (l : List UInt8) (hk1 : k1 < 18446744073709551616) (hv1 : v1 < 18446744073709551616) (hk2 : k2 < 18446744073709551616) (hv2 : v2 < 18446744073709551616) (w : World) (hn : l.length = n) (hlim : n ≤ 1048576) (hin : In w (some ⟨bb, oo, none⟩) n cap l) (hbb : bb < w.heap.size) (HC : Hid (∀ k, k < n → w.cell? ⟨bb, oo + k, none⟩ = some (.int .u8 (byt l k)))) :
    Calls Try.prog 4 #[.slice (some ⟨bb, oo, none⟩) n cap, .int .u64 k1, .int .u64 v1, .int .u64 k2, .int .u64 v2] w fun e w' => e = .returned (.bool true) ∧ Below w.heap.size w w' := by
  have Kc := Lib.hid (clone_any hin hlim)
  rw [hn] at Kc
  obtain ⟨F1, hF1⟩ : ∃ F, (fld k1 v1).length = F := ⟨_, rfl⟩
  obtain ⟨F2, hF2⟩ : ∃ F, (fld k2 v2).length = F := ⟨_, rfl⟩
  obtain ⟨a1, ha1⟩ : ∃ a, (Lib.uvarint k1).length = a := ⟨_, rfl⟩
  obtain ⟨b1, hb1⟩ : ∃ a, (Lib.uvarint v1).length = a := ⟨_, rfl⟩
  obtain ⟨a2, ha2⟩ : ∃ a, (Lib.uvarint k2).length = a := ⟨_, rfl⟩
  obtain ⟨b2, hb2⟩ : ∃ a, (Lib.uvarint v2).length = a := ⟨_, rfl⟩
  have hs1 : F1 = a1 + b1 := by rw [← hF1, ← ha1, ← hb1, fld_length]
  have hs2 : F2 = a2 + b2 := by rw [← hF2, ← ha2, ← hb2, fld_length]
  have bd1 := fld_bounds k1 v1 hk1 hv1
  have bd2 := fld_bounds k2 v2 hk2 hv2
  rw [hF1] at bd1
  rw [hF2] at bd2
  have S1 := Lib.hid (fun W => size_any k1 hk1 W)
  have S2 := Lib.hid (fun W => size_any v1 hv1 W)
  have S3 := Lib.hid (fun W => size_any k2 hk2 W)
  have S4 := Lib.hid (fun W => size_any v2 hv2 W)
  rw [ha1] at S1
  rw [hb1] at S2
  rw [ha2] at S3
  rw [hb2] at S4
  have HN := Lib.hid hn
  have HF1 := Lib.hid hF1
  have HF2 := Lib.hid hF2
  have P1 : F1 ≤ a1 + b1 := by omega
  have P1' : a1 + b1 ≤ F1 := by omega
  have P2 : F2 ≤ a2 + b2 := by omega
  have P2' : a2 + b2 ≤ F2 := by omega
  clear hn hF1 hF2 ha1 hb1 ha2 hb2 hs1 hs2 hin
  go_enter Try.func4, Try.ntmps4
  go_wp2_with (go_at_call 9; go_in)
  refine Kc.out.mono ?_
  rintro e w1 ⟨s1, rfl, hown1, hB1⟩
  have K1 := Lib.hid (field_n w.heap.size n (n + F1) F1 k1 v1 hk1 hv1 s1 l w1 HN.out HF1.out rfl hown1 hB1.size (by omega))
  have HB1 := Lib.hid hB1
  clear Kc hown1 hB1
  go_wp2_with fail
  refine K1.out.mono ?_
  rintro e w2 ⟨g1, c1, rfl, _, _, _, hown2, _, _, hB2⟩
  have HB2 := Lib.hid (HB1.out.trans hB2)
  have K2 := Lib.hid (field_n w.heap.size (n + F1) (n + F1 + F2) F2 k2 v2 hk2 hv2 _ (l ++ fld k1 v1) w2 (by rw [List.length_append, HN.out, HF1.out]) HF2.out rfl hown2 HB2.out.size (by omega))
  clear K1 HB1 hown2 hB2
  go_wp2_with fail
  refine K2.out.mono ?_
  rintro e w3 ⟨g2, c2, rfl, hc2, hm2, hz2, _, hA, hD, hB3⟩
  have HB3 := Lib.hid (HB2.out.trans hB3)
  have K3 := Lib.hid (field_nil F1 k1 v1 hk1 hv1 w3 HF1.out)
  have HA := Lib.hid hA
  have HD := Lib.hid hD
  clear K2 HB2 hB3 hA hD
  go_wp2_with fail
  refine K3.out.mono ?_
  rintro e w4 ⟨g3, c3, rfl, hc3, hm3, hz3, hE, hB4⟩
  have K4 := Lib.hid (field_nil F2 k2 v2 hk2 hv2 w4 HF2.out)
  have HE := Lib.hid hE
  have HB4 := Lib.hid hB4
  have hz24 : g2 < w4.heap.size := Nat.lt_of_lt_of_le hz2 hB4.size
  clear K3 hE hB4
  go_wp2_with fail
  refine K4.out.mono ?_
  rintro e w5 ⟨g4, c4, rfl, hc4, hm4, hz4, hG, hB5⟩
  have HB : Hid (Below w.heap.size w w5) := (HB3.out.trans (HB4.out.mono HB3.out.size)).trans (hB5.mono (Nat.le_trans HB3.out.size HB4.out.size))
  have C1 : Hid (∀ k, k < n → w5.cell? ⟨g2, k, none⟩ = some (.int .u8 (byt l k))) := fun k hk => by
    rw [hB5.cell (p := ⟨g2, k, none⟩) hz24, HB4.out.cell (p := ⟨g2, k, none⟩) hz2, HA.out k (by omega), byt_append_left _ _ _ (by rw [HN.out]; exact hk)]
  have C2 : Hid (∀ k, k < F1 → w5.cell? ⟨g2, n + k, none⟩ = some (.int .u8 (byt (fld k1 v1) k))) := fun k hk => by
    rw [hB5.cell (p := ⟨g2, n + k, none⟩) hz24, HB4.out.cell (p := ⟨g2, n + k, none⟩) hz2, HA.out (n + k) (by omega), byt_append_right _ _ n _ HN.out (by rw [HF1.out]; exact hk)]
  have C3 : Hid (∀ k, k < F2 → w5.cell? ⟨g2, n + F1 + k, none⟩ = some (.int .u8 (byt (fld k2 v2) k))) := fun k hk => by
    rw [hB5.cell (p := ⟨g2, n + F1 + k, none⟩) hz24, HB4.out.cell (p := ⟨g2, n + F1 + k, none⟩) hz2, HD.out k hk]
  have C4 : Hid (∀ k, k < F1 → w5.cell? ⟨g3, k, none⟩ = some (.int .u8 (byt (fld k1 v1) k))) := fun k hk => by
    rw [hB5.cell (p := ⟨g3, k, none⟩) hz3, HE.out k hk]
  have C5 := Lib.hid hG
  unfold maxLen at hm2 hm3 hm4
  clear K4 HA HD HE HB3 HB4 hG hB5 hz24
  go_wp2_with fail
  refine (S1.out _).mono ?_
  rintro e w6 ⟨rfl, hw6⟩
  rw [hw6]
  clear hw6 w6 S1
  go_wp2_with fail
  refine (S2.out _).mono ?_
  rintro e w6 ⟨rfl, hw6⟩
  rw [hw6]
  clear hw6 w6 S2
  have t1 : ((F1 : Int) != (a1 : Int) + (b1 : Int)) = false := by simp; omega
  go_wp2_with fail
  refine (S3.out _).mono ?_
  rintro e w6 ⟨rfl, hw6⟩
  rw [hw6]
  clear hw6 w6 S3
  go_wp2_with fail
  refine (S4.out _).mono ?_
  rintro e w6 ⟨rfl, hw6⟩
  rw [hw6]
  clear hw6 w6 S4
  have t2 : ((F2 : Int) != (a2 : Int) + (b2 : Int)) = false := by simp; omega
  go_wp2_with fail
  go_loopw [16] (fun i wr => ∃ (k q : Nat), k ≤ n ∧ i = .int .i64 k ∧ wr = w5.drewN q) (fun i _ => n - (intOf i).toNat)
  case atStart => exact ⟨0, 0, by omega, rfl, rfl⟩
  case round =>
    obtain ⟨k, q, hkl, rfl, rfl⟩ := hrel
    by_cases hlt : k < n
    · have e1 := C1.out k hlt
      have e2 : w5.cell? ⟨bb, oo + k, none⟩ = some (.int .u8 (byt l k)) := by rw [HB.out.cell (p := ⟨bb, oo + k, none⟩) hbb]; exact HC.out k hlt
      have hi : (k : Int) < (n : Int) := by omega
      have hi2 : (k : Int) < ((n + F1 + F2 : Nat) : Int) := by omega
      go_wp2_with fail
      go_quiet (fail)
      go_wp2
      go_roundw
      case rel => exact ⟨k + 1, _, by omega, by go_num, rfl⟩
      case measure => simp [intOf]; omega
    · go_wp2_with fail
      go_loopw [17] (fun i wr => ∃ (k q : Nat), k ≤ F1 ∧ i = .int .i64 k ∧ wr = w5.drewN q) (fun i _ => F1 - (intOf i).toNat)
      case atStart => exact ⟨0, q, by omega, rfl, rfl⟩
      case round =>
        obtain ⟨k', q', hkl', rfl, rfl⟩ := hrel
        by_cases hlt' : k' < F1
        · have e1 := C2.out k' hlt'
          have e2 := C4.out k' hlt'
          have hi : (k' : Int) < (F1 : Int) := by omega
          have hi2 : (n : Int) + (k' : Int) < ((n + F1 + F2 : Nat) : Int) := by omega
          go_wp2_with fail
          go_quiet (fail)
          go_wp2
          go_roundw
          case rel => exact ⟨k' + 1, _, by omega, by go_num, rfl⟩
          case measure => simp [intOf]; omega
        · go_wp2_with fail
          go_loopw [18] (fun i wr => ∃ (k q : Nat), k ≤ F2 ∧ i = .int .i64 k ∧ wr = w5.drewN q) (fun i _ => F2 - (intOf i).toNat)
          case atStart => exact ⟨0, q', by omega, rfl, rfl⟩
          case round =>
            obtain ⟨k3, q3, hkl3, rfl, rfl⟩ := hrel
            by_cases hlt3 : k3 < F2
            · have e1 := C3.out k3 hlt3
              have e2 := C5.out k3 hlt3
              have hi : (k3 : Int) < (F2 : Int) := by omega
              have hi2 : (n : Int) + (F1 : Int) + (k3 : Int) < ((n + F1 + F2 : Nat) : Int) := by omega
              go_wp2_with fail
              go_quiet (fail)
              go_wp2
              go_roundw
              case rel => exact ⟨k3 + 1, _, by omega, by go_num, rfl⟩
              case measure => simp [intOf]; omega
            · go_wp2
              go_ret
              have hb := HB.out
              exact ⟨rfl, ⟨hb.os, hb.tape, hb.output, hb.size, hb.block⟩⟩

set_option maxHeartbeats 4000000 in
theorem cat_zero (k1 v1 k2 v2 cap n : Nat) (a : Option Addr) (l : List UInt8) (hk1 : k1 < 18446744073709551616) (hv1 : v1 < 18446744073709551616) (hk2 : k2 < 18446744073709551616) (hv2 : v2 < 18446744073709551616) (w : World) (hn : l.length = n) (hlim : n ≤ 1048576) (hin : In w a n cap l) (h0 : n ≤ 0) :
    Calls Try.prog 4 #[.slice a n cap, .int .u64 k1, .int .u64 v1, .int .u64 k2, .int .u64 v2] w fun e w' => e = .returned (.bool true) ∧ Below w.heap.size w w' := by
  have Kc := Lib.hid (clone_any hin hlim)
  rw [hn] at Kc
  obtain ⟨F1, hF1⟩ : ∃ F, (fld k1 v1).length = F := ⟨_, rfl⟩
  obtain ⟨F2, hF2⟩ : ∃ F, (fld k2 v2).length = F := ⟨_, rfl⟩
  obtain ⟨a1, ha1⟩ : ∃ a, (Lib.uvarint k1).length = a := ⟨_, rfl⟩
  obtain ⟨b1, hb1⟩ : ∃ a, (Lib.uvarint v1).length = a := ⟨_, rfl⟩
  obtain ⟨a2, ha2⟩ : ∃ a, (Lib.uvarint k2).length = a := ⟨_, rfl⟩
  obtain ⟨b2, hb2⟩ : ∃ a, (Lib.uvarint v2).length = a := ⟨_, rfl⟩
  have hs1 : F1 = a1 + b1 := by rw [← hF1, ← ha1, ← hb1, fld_length]
  have hs2 : F2 = a2 + b2 := by rw [← hF2, ← ha2, ← hb2, fld_length]
  have bd1 := fld_bounds k1 v1 hk1 hv1
  have bd2 := fld_bounds k2 v2 hk2 hv2
  rw [hF1] at bd1
  rw [hF2] at bd2
  have S1 := Lib.hid (fun W => size_any k1 hk1 W)
  have S2 := Lib.hid (fun W => size_any v1 hv1 W)
  have S3 := Lib.hid (fun W => size_any k2 hk2 W)
  have S4 := Lib.hid (fun W => size_any v2 hv2 W)
  rw [ha1] at S1
  rw [hb1] at S2
  rw [ha2] at S3
  rw [hb2] at S4
  have HN := Lib.hid hn
  have HF1 := Lib.hid hF1
  have HF2 := Lib.hid hF2
  have P1 : F1 ≤ a1 + b1 := by omega
  have P1' : a1 + b1 ≤ F1 := by omega
  have P2 : F2 ≤ a2 + b2 := by omega
  have P2' : a2 + b2 ≤ F2 := by omega
  clear hn hF1 hF2 ha1 hb1 ha2 hb2 hs1 hs2 hin
  go_enter Try.func4, Try.ntmps4
  go_wp2_with (go_at_call 9; go_in)
  refine Kc.out.mono ?_
  rintro e w1 ⟨s1, rfl, hown1, hB1⟩
  have K1 := Lib.hid (field_n w.heap.size n (n + F1) F1 k1 v1 hk1 hv1 s1 l w1 HN.out HF1.out rfl hown1 hB1.size (by omega))
  have HB1 := Lib.hid hB1
  clear Kc hown1 hB1
  go_wp2_with fail
  refine K1.out.mono ?_
  rintro e w2 ⟨g1, c1, rfl, _, _, _, hown2, _, _, hB2⟩
  have HB2 := Lib.hid (HB1.out.trans hB2)
  have K2 := Lib.hid (field_n w.heap.size (n + F1) (n + F1 + F2) F2 k2 v2 hk2 hv2 _ (l ++ fld k1 v1) w2 (by rw [List.length_append, HN.out, HF1.out]) HF2.out rfl hown2 HB2.out.size (by omega))
  clear K1 HB1 hown2 hB2
  go_wp2_with fail
  refine K2.out.mono ?_
  rintro e w3 ⟨g2, c2, rfl, hc2, hm2, hz2, _, hA, hD, hB3⟩
  have HB3 := Lib.hid (HB2.out.trans hB3)
  have K3 := Lib.hid (field_nil F1 k1 v1 hk1 hv1 w3 HF1.out)
  have HA := Lib.hid hA
  have HD := Lib.hid hD
  clear K2 HB2 hB3 hA hD
  go_wp2_with fail
  refine K3.out.mono ?_
  rintro e w4 ⟨g3, c3, rfl, hc3, hm3, hz3, hE, hB4⟩
  have K4 := Lib.hid (field_nil F2 k2 v2 hk2 hv2 w4 HF2.out)
  have HE := Lib.hid hE
  have HB4 := Lib.hid hB4
  have hz24 : g2 < w4.heap.size := Nat.lt_of_lt_of_le hz2 hB4.size
  clear K3 hE hB4
  go_wp2_with fail
  refine K4.out.mono ?_
  rintro e w5 ⟨g4, c4, rfl, hc4, hm4, hz4, hG, hB5⟩
  have HB : Hid (Below w.heap.size w w5) := (HB3.out.trans (HB4.out.mono HB3.out.size)).trans (hB5.mono (Nat.le_trans HB3.out.size HB4.out.size))
  have C1 : Hid (∀ k, k < n → w5.cell? ⟨g2, k, none⟩ = some (.int .u8 (byt l k))) := fun k hk => by
    rw [hB5.cell (p := ⟨g2, k, none⟩) hz24, HB4.out.cell (p := ⟨g2, k, none⟩) hz2, HA.out k (by omega), byt_append_left _ _ _ (by rw [HN.out]; exact hk)]
  have C2 : Hid (∀ k, k < F1 → w5.cell? ⟨g2, n + k, none⟩ = some (.int .u8 (byt (fld k1 v1) k))) := fun k hk => by
    rw [hB5.cell (p := ⟨g2, n + k, none⟩) hz24, HB4.out.cell (p := ⟨g2, n + k, none⟩) hz2, HA.out (n + k) (by omega), byt_append_right _ _ n _ HN.out (by rw [HF1.out]; exact hk)]
  have C3 : Hid (∀ k, k < F2 → w5.cell? ⟨g2, n + F1 + k, none⟩ = some (.int .u8 (byt (fld k2 v2) k))) := fun k hk => by
    rw [hB5.cell (p := ⟨g2, n + F1 + k, none⟩) hz24, HB4.out.cell (p := ⟨g2, n + F1 + k, none⟩) hz2, HD.out k hk]
  have C4 : Hid (∀ k, k < F1 → w5.cell? ⟨g3, k, none⟩ = some (.int .u8 (byt (fld k1 v1) k))) := fun k hk => by
    rw [hB5.cell (p := ⟨g3, k, none⟩) hz3, HE.out k hk]
  have C5 := Lib.hid hG
  unfold maxLen at hm2 hm3 hm4
  clear K4 HA HD HE HB3 HB4 hG hB5 hz24
  go_wp2_with fail
  refine (S1.out _).mono ?_
  rintro e w6 ⟨rfl, hw6⟩
  rw [hw6]
  clear hw6 w6 S1
  go_wp2_with fail
  refine (S2.out _).mono ?_
  rintro e w6 ⟨rfl, hw6⟩
  rw [hw6]
  clear hw6 w6 S2
  have t1 : ((F1 : Int) != (a1 : Int) + (b1 : Int)) = false := by simp; omega
  go_wp2_with fail
  refine (S3.out _).mono ?_
  rintro e w6 ⟨rfl, hw6⟩
  rw [hw6]
  clear hw6 w6 S3
  go_wp2_with fail
  refine (S4.out _).mono ?_
  rintro e w6 ⟨rfl, hw6⟩
  rw [hw6]
  clear hw6 w6 S4
  have t2 : ((F2 : Int) != (a2 : Int) + (b2 : Int)) = false := by simp; omega
  go_wp2_with fail
  go_loopw [16] (fun i wr => ∃ (k q : Nat), k ≤ n ∧ i = .int .i64 k ∧ wr = w5.drewN q) (fun i _ => n - (intOf i).toNat)
  case atStart => exact ⟨0, 0, by omega, rfl, rfl⟩
  case round =>
    obtain ⟨k, q, hkl, rfl, rfl⟩ := hrel
    by_cases hlt : k < n
    · exfalso; omega
    · go_wp2_with fail
      go_loopw [17] (fun i wr => ∃ (k q : Nat), k ≤ F1 ∧ i = .int .i64 k ∧ wr = w5.drewN q) (fun i _ => F1 - (intOf i).toNat)
      case atStart => exact ⟨0, q, by omega, rfl, rfl⟩
      case round =>
        obtain ⟨k', q', hkl', rfl, rfl⟩ := hrel
        by_cases hlt' : k' < F1
        · have e1 := C2.out k' hlt'
          have e2 := C4.out k' hlt'
          have hi : (k' : Int) < (F1 : Int) := by omega
          have hi2 : (n : Int) + (k' : Int) < ((n + F1 + F2 : Nat) : Int) := by omega
          go_wp2_with fail
          go_quiet (fail)
          go_wp2
          go_roundw
          case rel => exact ⟨k' + 1, _, by omega, by go_num, rfl⟩
          case measure => simp [intOf]; omega
        · go_wp2_with fail
          go_loopw [18] (fun i wr => ∃ (k q : Nat), k ≤ F2 ∧ i = .int .i64 k ∧ wr = w5.drewN q) (fun i _ => F2 - (intOf i).toNat)
          case atStart => exact ⟨0, q', by omega, rfl, rfl⟩
          case round =>
            obtain ⟨k3, q3, hkl3, rfl, rfl⟩ := hrel
            by_cases hlt3 : k3 < F2
            · have e1 := C3.out k3 hlt3
              have e2 := C5.out k3 hlt3
              have hi : (k3 : Int) < (F2 : Int) := by omega
              have hi2 : (n : Int) + (F1 : Int) + (k3 : Int) < ((n + F1 + F2 : Nat) : Int) := by omega
              go_wp2_with fail
              go_quiet (fail)
              go_wp2
              go_roundw
              case rel => exact ⟨k3 + 1, _, by omega, by go_num, rfl⟩
              case measure => simp [intOf]; omega
            · go_wp2
              go_ret
              have hb := HB.out
              exact ⟨rfl, ⟨hb.os, hb.tape, hb.output, hb.size, hb.block⟩⟩

theorem cat_any (k1 v1 k2 v2 n cap : Nat) (a : Option Addr) (l : List UInt8) (hk1 : k1 < 18446744073709551616) (hv1 : v1 < 18446744073709551616) (hk2 : k2 < 18446744073709551616) (hv2 : v2 < 18446744073709551616) (w : World) (hlim : n ≤ 1048576) (hin : In w a n cap l) :
    Calls Try.prog 4 #[.slice a n cap, .int .u64 k1, .int .u64 v1, .int .u64 k2, .int .u64 v2] w fun e w' => e = .returned (.bool true) ∧ Below w.heap.size w w' := by
  have hin0 := hin
  obtain ⟨hn, _, hc⟩ := hin
  rcases hc with h0 | ⟨bb, oo, rfl, hbb, hcell⟩
  · exact cat_zero k1 v1 k2 v2 cap n a l hk1 hv1 hk2 hv2 w hn hlim hin0 (by omega)
  · exact cat_pos k1 v1 k2 v2 cap n bb oo l hk1 hv1 hk2 hv2 w hn hlim hin0 hbb (fun k hk => by rw [hcell k (by omega), byt_at])

set_option maxHeartbeats 800000 in
theorem cat_long (k1 v1 k2 v2 : Int) (a : Option Addr) (n cap : Nat) (w : World) (hn : 1048576 < n) (hm : n ≤ maxLen) :
    Calls Try.prog 4 #[.slice a n cap, .int .u64 k1, .int .u64 v1, .int .u64 k2, .int .u64 v2] w fun e w' => e = .returned (.bool true) ∧ Below w.heap.size w w' := by
  unfold maxLen at hm
  go_enter Try.func4, Try.ntmps4
  go_wp2
  all_goals (go_ret; exact ⟨rfl, Below.refl _ _⟩)
end Go.Proofs.Qxb6616142a
