/-
  THE SEAT b6616142a: the walk of zzUvarint: it reads back what AppendUvarint wrote. By an AI agent.
-/
import Derived.Test.Qxb6616142aAppend
import Derived.Lib.VarintBits
namespace Go.Proofs.Qxb6616142a
open Go.RowKit

/-- Where the reading of x's varint stands behind k bytes: 'acc' read so far, 'y' still to come. -/
def St (x k acc y : Nat) : Prop := k ≤ 9 ∧ x = acc + y * 128 ^ k ∧ acc < 128 ^ k ∧ (0 < k → 1 ≤ y) ∧ ∃ pre : List UInt8, Lib.uvarint x = pre ++ Lib.uvarint y ∧ pre.length = k

theorem st_start (x : Nat) : St x 0 0 x := ⟨by omega, by simp, by simp, fun h => by omega, [], rfl, rfl⟩

theorem st_step {x k acc y : Nat} (h : St x k acc y) (hx : x < 18446744073709551616) (hy : 128 ≤ y) : St x (k + 1) (acc + y % 128 * 128 ^ k) (y / 128) := by
  obtain ⟨hk, hx1, hacc, _, pre, hs, hp⟩ := h
  have hl := Lib.uvarint_length64 hx
  have hb := Lib.uvarint_big hy
  have hpos := Lib.uvarint_pos (y / 128)
  refine ⟨?_, ?_, ?_, fun _ => by omega, pre ++ [(y % 128 + 128).toUInt8], ?_, by simp [hp]⟩
  · rw [hs, hb] at hl
    simp at hl
    omega
  · rw [hx1, Nat.pow_succ]
    have e : y = y / 128 * 128 + y % 128 := by omega
    have e2 : y / 128 * (128 ^ k * 128) = y / 128 * 128 * 128 ^ k := by rw [Nat.mul_assoc, Nat.mul_comm (128 ^ k) 128]
    rw [e2, Nat.add_assoc, ← Nat.add_mul, Nat.add_comm (y % 128), ← e]
  · rw [Nat.pow_succ]
    have h9 : y % 128 * 128 ^ k ≤ 127 * 128 ^ k := Nat.mul_le_mul_right _ (by omega)
    omega
  · rw [hs, hb]; simp

theorem ret_uv {x : Int} {a b : Int} {t : Bool} (h : a = b) : Ending.returned (.tuple #[.int .u64 x, .int .i64 a, .bool t]) = .returned (.tuple #[.int .u64 x, .int .i64 b, .bool t]) := by rw [h]

set_option maxRecDepth 100000 in
set_option maxHeartbeats 4000000 in
theorem uv_any (g n c at_ x : Nat) (hx : x < 18446744073709551616) (w : World) (hn : n ≤ 3000000) (hat : at_ + (Lib.uvarint x).length ≤ n)
    (hcell : ∀ j (hj : j < (Lib.uvarint x).length), w.cell? ⟨g, at_ + j, none⟩ = some (.int .u8 ((Lib.uvarint x)[j].toNat : Int))) :
    Calls Try.prog 8 #[.slice (some ⟨g, 0, none⟩) n c, .int .i64 at_] w fun e w' => e = .returned (.tuple #[.int .u64 x, .int .i64 ((at_ + (Lib.uvarint x).length : Nat) : Int), .bool true]) ∧ w' = w := by
  have HX := Lib.hid hcell
  clear hcell
  go_enter Try.func8, Try.ntmps8
  go_wp2
  go_loop [7, 8, 9] (fun vx vs vi => ∃ k acc y : Nat, vx = .int .u64 acc ∧ vs = .int .u64 ((7 * k : Nat) : Int) ∧ vi = .int .i64 k ∧ Hid (St x k acc y)) (fun _ _ vi => 10 - (intOf vi).toNat)
  case atStart => exact ⟨0, 0, x, rfl, rfl, rfl, st_start x⟩
  case round =>
    obtain ⟨k, acc, y, rfl, rfl, rfl, HST⟩ := hrel
    obtain ⟨hk, hx1, hacc, hyp, pre, hsplit, hpre⟩ := HST.out
    have hlk : at_ + k < n := by
      have := Lib.uvarint_pos y
      have h := congrArg List.length hsplit
      rw [List.length_append] at h
      omega
    have HC : Hid (∀ b : UInt8, (Lib.uvarint x)[k]? = some b → w.cell? ⟨g, at_ + k, none⟩ = some (.int .u8 (b.toNat : Int))) := fun b hb => by
      obtain ⟨hj, e⟩ := List.getElem?_eq_some_iff.1 hb
      rw [HX.out k hj, e]
    have hks : k = 0 ∨ k = 1 ∨ k = 2 ∨ k = 3 ∨ k = 4 ∨ k = 5 ∨ k = 6 ∨ k = 7 ∨ k = 8 ∨ k = 9 := by omega
    clear HX hat hk
    rcases hks with rfl | rfl | rfl | rfl | rfl | rfl | rfl | rfl | rfl | rfl
    · -- the byte at place 0
      have hP : (128 : Nat) ^ 0 = 1 := by decide
      rw [hP] at hx1 hacc
      obtain rfl : acc = 0 := by omega
      by_cases hy : y < 128
      · have hcell := HC.out y.toUInt8 (by rw [hsplit, Lib.uvarint_small hy]; simp [hpre])
        have hty : (y.toUInt8).toNat = y := by simp; omega
        rw [hty] at hcell
        rw [Nat.add_zero] at hcell
        have ha : bits .and .u8 (y : Int) 127 = (y : Int) := by
          rw [u8_and127 _ (by omega) (by omega)]; omega
        have ho : bits .or .u64 0 ((y : Int)) = (x : Int) := by
          rw [u64_orv0 _ _ (by omega) (by omega) (by omega) (by omega) (by omega)]; omega
        have hL : (Lib.uvarint x).length = 1 := by rw [hsplit, Lib.uvarint_small hy]; simp [hpre]
        have HL := Lib.hid hL
        clear hL hty hsplit hx1 hacc HC hyp hP hx
        go_wp2
        go_ret3
        exact ⟨ret_uv (by have := HL.out; omega), rfl⟩
      · have hcell := HC.out (y % 128 + 128).toUInt8 (by rw [hsplit, Lib.uvarint_big (by omega)]; simp [hpre])
        have hty : ((y % 128 + 128).toUInt8).toNat = y % 128 + 128 := by simp; omega
        rw [hty] at hcell
        rw [Nat.add_zero] at hcell
        rw [show ((y % 128 + 128 : Nat) : Int) = (y : Int) % 128 + 128 from by omega] at hcell
        have ha : bits .and .u8 ((y : Int) % 128 + 128) 127 = (y : Int) % 128 := by
          rw [u8_and127 _ (by omega) (by omega)]; omega
        have ho : bits .or .u64 0 ((y : Int) % 128) = ((y % 128 : Nat) : Int) := by
          rw [u64_orv0 _ _ (by omega) (by omega) (by omega) (by omega) (by omega)]; omega
        have hS : St x 1 (y % 128) (y / 128) := by simpa using st_step HST.out hx (by omega)
        have HS := Lib.hid hS
        clear hS hty hsplit hx1 hacc HC hyp hP hx
        go_wp2
        go_round
        case rel => exact ⟨1, y % 128, y / 128, by go_num, rfl, rfl, HS⟩
        case measure => simp [intOf]
    · -- the byte at place 1
      have hP : (128 : Nat) ^ 1 = 128 := by decide
      rw [hP] at hx1 hacc
      by_cases hy : y < 128
      · have hcell := HC.out y.toUInt8 (by rw [hsplit, Lib.uvarint_small hy]; simp [hpre])
        have hty : (y.toUInt8).toNat = y := by simp; omega
        rw [hty] at hcell
        have hy1 : 1 ≤ y := hyp (by omega)
        have hyz : ((y : Int) == 0) = false := by simp; omega
        have ha : bits .and .u8 (y : Int) 127 = (y : Int) := by
          rw [u8_and127 _ (by omega) (by omega)]; omega
        have ho : bits .or .u64 (acc : Int) ((y : Int) * 128) = (x : Int) := by
          rw [u64_orv7 _ _ (by omega) (by omega) (by omega) (by omega) (by omega)]; omega
        have hL : (Lib.uvarint x).length = 2 := by rw [hsplit, Lib.uvarint_small hy]; simp [hpre]
        have HL := Lib.hid hL
        clear hL hty hsplit hx1 hacc HC hyp hP hx
        go_wp2
        go_ret3
        exact ⟨ret_uv (by have := HL.out; omega), rfl⟩
      · have hcell := HC.out (y % 128 + 128).toUInt8 (by rw [hsplit, Lib.uvarint_big (by omega)]; simp [hpre])
        have hty : ((y % 128 + 128).toUInt8).toNat = y % 128 + 128 := by simp; omega
        rw [hty] at hcell
        rw [show ((y % 128 + 128 : Nat) : Int) = (y : Int) % 128 + 128 from by omega] at hcell
        have ha : bits .and .u8 ((y : Int) % 128 + 128) 127 = (y : Int) % 128 := by
          rw [u8_and127 _ (by omega) (by omega)]; omega
        have ho : bits .or .u64 (acc : Int) ((y : Int) % 128 * 128) = ((acc + y % 128 * 128 : Nat) : Int) := by
          rw [u64_orv7 _ _ (by omega) (by omega) (by omega) (by omega) (by omega)]; omega
        have hS : St x 2 (acc + y % 128 * 128) (y / 128) := st_step HST.out hx (by omega)
        have HS := Lib.hid hS
        clear hS hty hsplit hx1 hacc HC hyp hP hx
        go_wp2
        go_round
        case rel => exact ⟨2, _, y / 128, rfl, rfl, rfl, HS⟩
        case measure => simp [intOf]
    · -- the byte at place 2
      have hP : (128 : Nat) ^ 2 = 16384 := by decide
      rw [hP] at hx1 hacc
      by_cases hy : y < 128
      · have hcell := HC.out y.toUInt8 (by rw [hsplit, Lib.uvarint_small hy]; simp [hpre])
        have hty : (y.toUInt8).toNat = y := by simp; omega
        rw [hty] at hcell
        have hy1 : 1 ≤ y := hyp (by omega)
        have hyz : ((y : Int) == 0) = false := by simp; omega
        have ha : bits .and .u8 (y : Int) 127 = (y : Int) := by
          rw [u8_and127 _ (by omega) (by omega)]; omega
        have ho : bits .or .u64 (acc : Int) ((y : Int) * 16384) = (x : Int) := by
          rw [u64_orv14 _ _ (by omega) (by omega) (by omega) (by omega) (by omega)]; omega
        have hL : (Lib.uvarint x).length = 3 := by rw [hsplit, Lib.uvarint_small hy]; simp [hpre]
        have HL := Lib.hid hL
        clear hL hty hsplit hx1 hacc HC hyp hP hx
        go_wp2
        go_ret3
        exact ⟨ret_uv (by have := HL.out; omega), rfl⟩
      · have hcell := HC.out (y % 128 + 128).toUInt8 (by rw [hsplit, Lib.uvarint_big (by omega)]; simp [hpre])
        have hty : ((y % 128 + 128).toUInt8).toNat = y % 128 + 128 := by simp; omega
        rw [hty] at hcell
        rw [show ((y % 128 + 128 : Nat) : Int) = (y : Int) % 128 + 128 from by omega] at hcell
        have ha : bits .and .u8 ((y : Int) % 128 + 128) 127 = (y : Int) % 128 := by
          rw [u8_and127 _ (by omega) (by omega)]; omega
        have ho : bits .or .u64 (acc : Int) ((y : Int) % 128 * 16384) = ((acc + y % 128 * 16384 : Nat) : Int) := by
          rw [u64_orv14 _ _ (by omega) (by omega) (by omega) (by omega) (by omega)]; omega
        have hS : St x 3 (acc + y % 128 * 16384) (y / 128) := st_step HST.out hx (by omega)
        have HS := Lib.hid hS
        clear hS hty hsplit hx1 hacc HC hyp hP hx
        go_wp2
        go_round
        case rel => exact ⟨3, _, y / 128, rfl, rfl, rfl, HS⟩
        case measure => simp [intOf]
    · -- the byte at place 3
      have hP : (128 : Nat) ^ 3 = 2097152 := by decide
      rw [hP] at hx1 hacc
      by_cases hy : y < 128
      · have hcell := HC.out y.toUInt8 (by rw [hsplit, Lib.uvarint_small hy]; simp [hpre])
        have hty : (y.toUInt8).toNat = y := by simp; omega
        rw [hty] at hcell
        have hy1 : 1 ≤ y := hyp (by omega)
        have hyz : ((y : Int) == 0) = false := by simp; omega
        have ha : bits .and .u8 (y : Int) 127 = (y : Int) := by
          rw [u8_and127 _ (by omega) (by omega)]; omega
        have ho : bits .or .u64 (acc : Int) ((y : Int) * 2097152) = (x : Int) := by
          rw [u64_orv21 _ _ (by omega) (by omega) (by omega) (by omega) (by omega)]; omega
        have hL : (Lib.uvarint x).length = 4 := by rw [hsplit, Lib.uvarint_small hy]; simp [hpre]
        have HL := Lib.hid hL
        clear hL hty hsplit hx1 hacc HC hyp hP hx
        go_wp2
        go_ret3
        exact ⟨ret_uv (by have := HL.out; omega), rfl⟩
      · have hcell := HC.out (y % 128 + 128).toUInt8 (by rw [hsplit, Lib.uvarint_big (by omega)]; simp [hpre])
        have hty : ((y % 128 + 128).toUInt8).toNat = y % 128 + 128 := by simp; omega
        rw [hty] at hcell
        rw [show ((y % 128 + 128 : Nat) : Int) = (y : Int) % 128 + 128 from by omega] at hcell
        have ha : bits .and .u8 ((y : Int) % 128 + 128) 127 = (y : Int) % 128 := by
          rw [u8_and127 _ (by omega) (by omega)]; omega
        have ho : bits .or .u64 (acc : Int) ((y : Int) % 128 * 2097152) = ((acc + y % 128 * 2097152 : Nat) : Int) := by
          rw [u64_orv21 _ _ (by omega) (by omega) (by omega) (by omega) (by omega)]; omega
        have hS : St x 4 (acc + y % 128 * 2097152) (y / 128) := st_step HST.out hx (by omega)
        have HS := Lib.hid hS
        clear hS hty hsplit hx1 hacc HC hyp hP hx
        go_wp2
        go_round
        case rel => exact ⟨4, _, y / 128, rfl, rfl, rfl, HS⟩
        case measure => simp [intOf]
    · -- the byte at place 4
      have hP : (128 : Nat) ^ 4 = 268435456 := by decide
      rw [hP] at hx1 hacc
      by_cases hy : y < 128
      · have hcell := HC.out y.toUInt8 (by rw [hsplit, Lib.uvarint_small hy]; simp [hpre])
        have hty : (y.toUInt8).toNat = y := by simp; omega
        rw [hty] at hcell
        have hy1 : 1 ≤ y := hyp (by omega)
        have hyz : ((y : Int) == 0) = false := by simp; omega
        have ha : bits .and .u8 (y : Int) 127 = (y : Int) := by
          rw [u8_and127 _ (by omega) (by omega)]; omega
        have ho : bits .or .u64 (acc : Int) ((y : Int) * 268435456) = (x : Int) := by
          rw [u64_orv28 _ _ (by omega) (by omega) (by omega) (by omega) (by omega)]; omega
        have hL : (Lib.uvarint x).length = 5 := by rw [hsplit, Lib.uvarint_small hy]; simp [hpre]
        have HL := Lib.hid hL
        clear hL hty hsplit hx1 hacc HC hyp hP hx
        go_wp2
        go_ret3
        exact ⟨ret_uv (by have := HL.out; omega), rfl⟩
      · have hcell := HC.out (y % 128 + 128).toUInt8 (by rw [hsplit, Lib.uvarint_big (by omega)]; simp [hpre])
        have hty : ((y % 128 + 128).toUInt8).toNat = y % 128 + 128 := by simp; omega
        rw [hty] at hcell
        rw [show ((y % 128 + 128 : Nat) : Int) = (y : Int) % 128 + 128 from by omega] at hcell
        have ha : bits .and .u8 ((y : Int) % 128 + 128) 127 = (y : Int) % 128 := by
          rw [u8_and127 _ (by omega) (by omega)]; omega
        have ho : bits .or .u64 (acc : Int) ((y : Int) % 128 * 268435456) = ((acc + y % 128 * 268435456 : Nat) : Int) := by
          rw [u64_orv28 _ _ (by omega) (by omega) (by omega) (by omega) (by omega)]; omega
        have hS : St x 5 (acc + y % 128 * 268435456) (y / 128) := st_step HST.out hx (by omega)
        have HS := Lib.hid hS
        clear hS hty hsplit hx1 hacc HC hyp hP hx
        go_wp2
        go_round
        case rel => exact ⟨5, _, y / 128, rfl, rfl, rfl, HS⟩
        case measure => simp [intOf]
    · -- the byte at place 5
      have hP : (128 : Nat) ^ 5 = 34359738368 := by decide
      rw [hP] at hx1 hacc
      by_cases hy : y < 128
      · have hcell := HC.out y.toUInt8 (by rw [hsplit, Lib.uvarint_small hy]; simp [hpre])
        have hty : (y.toUInt8).toNat = y := by simp; omega
        rw [hty] at hcell
        have hy1 : 1 ≤ y := hyp (by omega)
        have hyz : ((y : Int) == 0) = false := by simp; omega
        have ha : bits .and .u8 (y : Int) 127 = (y : Int) := by
          rw [u8_and127 _ (by omega) (by omega)]; omega
        have ho : bits .or .u64 (acc : Int) ((y : Int) * 34359738368) = (x : Int) := by
          rw [u64_orv35 _ _ (by omega) (by omega) (by omega) (by omega) (by omega)]; omega
        have hL : (Lib.uvarint x).length = 6 := by rw [hsplit, Lib.uvarint_small hy]; simp [hpre]
        have HL := Lib.hid hL
        clear hL hty hsplit hx1 hacc HC hyp hP hx
        go_wp2
        go_ret3
        exact ⟨ret_uv (by have := HL.out; omega), rfl⟩
      · have hcell := HC.out (y % 128 + 128).toUInt8 (by rw [hsplit, Lib.uvarint_big (by omega)]; simp [hpre])
        have hty : ((y % 128 + 128).toUInt8).toNat = y % 128 + 128 := by simp; omega
        rw [hty] at hcell
        rw [show ((y % 128 + 128 : Nat) : Int) = (y : Int) % 128 + 128 from by omega] at hcell
        have ha : bits .and .u8 ((y : Int) % 128 + 128) 127 = (y : Int) % 128 := by
          rw [u8_and127 _ (by omega) (by omega)]; omega
        have ho : bits .or .u64 (acc : Int) ((y : Int) % 128 * 34359738368) = ((acc + y % 128 * 34359738368 : Nat) : Int) := by
          rw [u64_orv35 _ _ (by omega) (by omega) (by omega) (by omega) (by omega)]; omega
        have hS : St x 6 (acc + y % 128 * 34359738368) (y / 128) := st_step HST.out hx (by omega)
        have HS := Lib.hid hS
        clear hS hty hsplit hx1 hacc HC hyp hP hx
        go_wp2
        go_round
        case rel => exact ⟨6, _, y / 128, rfl, rfl, rfl, HS⟩
        case measure => simp [intOf]
    · -- the byte at place 6
      have hP : (128 : Nat) ^ 6 = 4398046511104 := by decide
      rw [hP] at hx1 hacc
      by_cases hy : y < 128
      · have hcell := HC.out y.toUInt8 (by rw [hsplit, Lib.uvarint_small hy]; simp [hpre])
        have hty : (y.toUInt8).toNat = y := by simp; omega
        rw [hty] at hcell
        have hy1 : 1 ≤ y := hyp (by omega)
        have hyz : ((y : Int) == 0) = false := by simp; omega
        have ha : bits .and .u8 (y : Int) 127 = (y : Int) := by
          rw [u8_and127 _ (by omega) (by omega)]; omega
        have ho : bits .or .u64 (acc : Int) ((y : Int) * 4398046511104) = (x : Int) := by
          rw [u64_orv42 _ _ (by omega) (by omega) (by omega) (by omega) (by omega)]; omega
        have hL : (Lib.uvarint x).length = 7 := by rw [hsplit, Lib.uvarint_small hy]; simp [hpre]
        have HL := Lib.hid hL
        clear hL hty hsplit hx1 hacc HC hyp hP hx
        go_wp2
        go_ret3
        exact ⟨ret_uv (by have := HL.out; omega), rfl⟩
      · have hcell := HC.out (y % 128 + 128).toUInt8 (by rw [hsplit, Lib.uvarint_big (by omega)]; simp [hpre])
        have hty : ((y % 128 + 128).toUInt8).toNat = y % 128 + 128 := by simp; omega
        rw [hty] at hcell
        rw [show ((y % 128 + 128 : Nat) : Int) = (y : Int) % 128 + 128 from by omega] at hcell
        have ha : bits .and .u8 ((y : Int) % 128 + 128) 127 = (y : Int) % 128 := by
          rw [u8_and127 _ (by omega) (by omega)]; omega
        have ho : bits .or .u64 (acc : Int) ((y : Int) % 128 * 4398046511104) = ((acc + y % 128 * 4398046511104 : Nat) : Int) := by
          rw [u64_orv42 _ _ (by omega) (by omega) (by omega) (by omega) (by omega)]; omega
        have hS : St x 7 (acc + y % 128 * 4398046511104) (y / 128) := st_step HST.out hx (by omega)
        have HS := Lib.hid hS
        clear hS hty hsplit hx1 hacc HC hyp hP hx
        go_wp2
        go_round
        case rel => exact ⟨7, _, y / 128, rfl, rfl, rfl, HS⟩
        case measure => simp [intOf]
    · -- the byte at place 7
      have hP : (128 : Nat) ^ 7 = 562949953421312 := by decide
      rw [hP] at hx1 hacc
      by_cases hy : y < 128
      · have hcell := HC.out y.toUInt8 (by rw [hsplit, Lib.uvarint_small hy]; simp [hpre])
        have hty : (y.toUInt8).toNat = y := by simp; omega
        rw [hty] at hcell
        have hy1 : 1 ≤ y := hyp (by omega)
        have hyz : ((y : Int) == 0) = false := by simp; omega
        have ha : bits .and .u8 (y : Int) 127 = (y : Int) := by
          rw [u8_and127 _ (by omega) (by omega)]; omega
        have ho : bits .or .u64 (acc : Int) ((y : Int) * 562949953421312) = (x : Int) := by
          rw [u64_orv49 _ _ (by omega) (by omega) (by omega) (by omega) (by omega)]; omega
        have hL : (Lib.uvarint x).length = 8 := by rw [hsplit, Lib.uvarint_small hy]; simp [hpre]
        have HL := Lib.hid hL
        clear hL hty hsplit hx1 hacc HC hyp hP hx
        go_wp2
        go_ret3
        exact ⟨ret_uv (by have := HL.out; omega), rfl⟩
      · have hcell := HC.out (y % 128 + 128).toUInt8 (by rw [hsplit, Lib.uvarint_big (by omega)]; simp [hpre])
        have hty : ((y % 128 + 128).toUInt8).toNat = y % 128 + 128 := by simp; omega
        rw [hty] at hcell
        rw [show ((y % 128 + 128 : Nat) : Int) = (y : Int) % 128 + 128 from by omega] at hcell
        have ha : bits .and .u8 ((y : Int) % 128 + 128) 127 = (y : Int) % 128 := by
          rw [u8_and127 _ (by omega) (by omega)]; omega
        have ho : bits .or .u64 (acc : Int) ((y : Int) % 128 * 562949953421312) = ((acc + y % 128 * 562949953421312 : Nat) : Int) := by
          rw [u64_orv49 _ _ (by omega) (by omega) (by omega) (by omega) (by omega)]; omega
        have hS : St x 8 (acc + y % 128 * 562949953421312) (y / 128) := st_step HST.out hx (by omega)
        have HS := Lib.hid hS
        clear hS hty hsplit hx1 hacc HC hyp hP hx
        go_wp2
        go_round
        case rel => exact ⟨8, _, y / 128, rfl, rfl, rfl, HS⟩
        case measure => simp [intOf]
    · -- the byte at place 8
      have hP : (128 : Nat) ^ 8 = 72057594037927936 := by decide
      rw [hP] at hx1 hacc
      by_cases hy : y < 128
      · have hcell := HC.out y.toUInt8 (by rw [hsplit, Lib.uvarint_small hy]; simp [hpre])
        have hty : (y.toUInt8).toNat = y := by simp; omega
        rw [hty] at hcell
        have hy1 : 1 ≤ y := hyp (by omega)
        have hyz : ((y : Int) == 0) = false := by simp; omega
        have ha : bits .and .u8 (y : Int) 127 = (y : Int) := by
          rw [u8_and127 _ (by omega) (by omega)]; omega
        have ho : bits .or .u64 (acc : Int) ((y : Int) * 72057594037927936) = (x : Int) := by
          rw [u64_orv56 _ _ (by omega) (by omega) (by omega) (by omega) (by omega)]; omega
        have hL : (Lib.uvarint x).length = 9 := by rw [hsplit, Lib.uvarint_small hy]; simp [hpre]
        have HL := Lib.hid hL
        clear hL hty hsplit hx1 hacc HC hyp hP hx
        go_wp2
        go_ret3
        exact ⟨ret_uv (by have := HL.out; omega), rfl⟩
      · have hcell := HC.out (y % 128 + 128).toUInt8 (by rw [hsplit, Lib.uvarint_big (by omega)]; simp [hpre])
        have hty : ((y % 128 + 128).toUInt8).toNat = y % 128 + 128 := by simp; omega
        rw [hty] at hcell
        rw [show ((y % 128 + 128 : Nat) : Int) = (y : Int) % 128 + 128 from by omega] at hcell
        have ha : bits .and .u8 ((y : Int) % 128 + 128) 127 = (y : Int) % 128 := by
          rw [u8_and127 _ (by omega) (by omega)]; omega
        have ho : bits .or .u64 (acc : Int) ((y : Int) % 128 * 72057594037927936) = ((acc + y % 128 * 72057594037927936 : Nat) : Int) := by
          rw [u64_orv56 _ _ (by omega) (by omega) (by omega) (by omega) (by omega)]; omega
        have hS : St x 9 (acc + y % 128 * 72057594037927936) (y / 128) := st_step HST.out hx (by omega)
        have HS := Lib.hid hS
        clear hS hty hsplit hx1 hacc HC hyp hP hx
        go_wp2
        go_round
        case rel => exact ⟨9, _, y / 128, rfl, rfl, rfl, HS⟩
        case measure => simp [intOf]
    · -- the byte at place 9
      have hP : (128 : Nat) ^ 9 = 9223372036854775808 := by decide
      rw [hP] at hx1 hacc
      by_cases hy : y < 128
      · have hcell := HC.out y.toUInt8 (by rw [hsplit, Lib.uvarint_small hy]; simp [hpre])
        have hty : (y.toUInt8).toNat = y := by simp; omega
        rw [hty] at hcell
        have hy1 : 1 ≤ y := hyp (by omega)
        have hyz : ((y : Int) == 0) = false := by simp; omega
        have hy2 : y ≤ 1 := by omega
        have ha : bits .and .u8 (y : Int) 127 = (y : Int) := by
          rw [u8_and127 _ (by omega) (by omega)]; omega
        have ho : bits .or .u64 (acc : Int) ((y : Int) * 9223372036854775808) = (x : Int) := by
          rw [u64_orv63 _ _ (by omega) (by omega) (by omega) (by omega) (by omega)]; omega
        have hL : (Lib.uvarint x).length = 10 := by rw [hsplit, Lib.uvarint_small hy]; simp [hpre]
        have HL := Lib.hid hL
        clear hL hty hsplit hx1 hacc HC hyp hP hx
        go_wp2
        go_ret3
        exact ⟨ret_uv (by have := HL.out; omega), rfl⟩
      · exfalso
        omega
end Go.Proofs.Qxb6616142a
