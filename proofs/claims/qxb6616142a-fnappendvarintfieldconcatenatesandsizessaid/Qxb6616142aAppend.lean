/-
  THE SEAT b6616142a: the walks of zzCloneBytes, appendVarintField, ZZappendVarintField, zzSize. By an AI agent.
-/
import Derived.Test.Qxb6616142aShelf
import Derived.WalkKit
import Derived.WalkSpells
import Derived.OwnWalk
import Derived.Lib.Hide
import Derived.Lib.Slices
import Derived.Lib.SliceRun
namespace Go.Proofs.Qxb6616142a
open Go.RowKit

theorem ret_int {k : IntKind} {a b : Int} (h : a = b) : Ending.returned (.int k a) = .returned (.int k b) := by rw [h]

/-- The byte type's row of the table. -/
theorem info5 : (Try.prog.info? 5).map (fun i => (i.zero, i.size, i.bytes)) = some (some (.int .u8 0), 1, 1) := by kernel_rfl

set_option maxHeartbeats 800000 in
theorem clone_nil (w : World) :
    Calls Try.prog 6 #[.slice none 0 0] w fun e w' => e = .returned (.slice none 0 0) ∧ w' = w := by
  have k1 := fun (W : World) => Lib.run_eql_slice_nil (P := Try.prog) W 22 5 none 0 0 0 0 Try.underlying22
  go_enter Try.func6, Try.ntmps6
  go_wp2
  go_ret
  exact ⟨rfl, rfl⟩

set_option maxHeartbeats 800000 in
theorem clone_empty (x : Addr) (c : Nat) (w : World) :
    Calls Try.prog 6 #[.slice (some x) 0 c] w fun e w' => ∃ v, e = .returned v ∧ w'.ownsRow w.heap.size 5 1 v 0 [] ∧ Below w.heap.size w w' := by
  have k1 := fun (W : World) => Lib.run_eql_slice_nil (P := Try.prog) W 22 5 (some x) 0 c 0 0 Try.underlying22
  obtain ⟨i0, hi, hz0, hz1, hz2⟩ := info_parts info5
  go_enter Try.func6, Try.ntmps6
  go_wp2_with (at_make; refine wpList_make_full _ rfl _ _ 22 rfl w.heap.size 5 i0 (.int .u8 0) 1 Try.underlying22 hi hz0 hz1 _ _ _ _ 0 rfl rfl (by rfl) (by rfl) (by rw [hz2]; omega) (by unfold maxLen; omega) (Nat.le_refl _) ?_)
  intro w1 hown1 hg1
  have hB1 : Below w.heap.size w w1 := (Below.refl _ _).grown hg1 (Nat.le_refl _) (fun k hk => by cases hk)
  go_wp2
  go_loopw [4] (fun i wr => i = .int .i64 0 ∧ wr = w1) (fun _ _ => 0)
  case atStart => exact ⟨rfl, rfl⟩
  case round =>
    obtain ⟨rfl, rfl⟩ := hrel
    go_wp2
    go_ret
    exact ⟨_, rfl, by simpa [madeCells] using hown1, hB1⟩

theorem set_step (zs M : List Value) (k : Nat) (hk : k < zs.length) (hm : M.length = zs.length) : (zs.take k ++ M.drop k).set k (zs[k]) = zs.take (k + 1) ++ M.drop (k + 1) := by
  have h1 : (zs.take k).length = k := by simp; omega
  rw [List.set_append_right _ _ (by omega), h1, Nat.sub_self]
  have h2 : M.drop k = M[k] :: M.drop (k + 1) := List.drop_eq_getElem_cons (by omega)
  rw [h2, List.set_cons_zero, List.take_succ_eq_append_getElem hk, List.append_assoc]
  rfl

set_option maxHeartbeats 800000 in
theorem clone_pos (bb oo n c : Nat) (l : List UInt8) (w : World) (hl : l.length = n) (hlim : n ≤ 1048576) (hbb : bb < w.heap.size)
    (hcell : ∀ k (hk : k < l.length), w.cell? ⟨bb, oo + k, none⟩ = some (.int .u8 (l[k].toNat : Int))) :
    Calls Try.prog 6 #[.slice (some ⟨bb, oo, none⟩) n c] w fun e w' => ∃ v, e = .returned v ∧ w'.ownsRow w.heap.size 5 1 v n (Lib.byteCells l) ∧ Below w.heap.size w w' := by
  have k1 := fun (W : World) => Lib.run_eql_slice_nil (P := Try.prog) W 22 5 (some ⟨bb, oo, none⟩) n c 0 0 Try.underlying22
  obtain ⟨i0, hi, hz0, hz1, hz2⟩ := info_parts info5
  have HL := Lib.hid hl
  have HC := Lib.hid hcell
  have hb1 : i0.bytes ≤ 1 := by omega
  clear hl hcell
  go_enter Try.func6, Try.ntmps6
  go_wp2_with (at_make; refine wpList_make_full _ rfl _ _ 22 rfl w.heap.size 5 i0 (.int .u8 0) 1 Try.underlying22 hi hz0 hz1 _ _ _ _ n rfl rfl (by omega) (by omega) (by rw [hz2]; omega) (by unfold maxLen; omega) (Nat.le_refl _) ?_)
  intro w1 hown1 hg1
  have hB1 : Below w.heap.size w w1 := (Below.refl _ _).grown hg1 (Nat.le_refl _) (fun k hk => by cases hk)
  obtain ⟨M, hM⟩ : ∃ M, M = (madeCells #[Value.int IntKind.u8 0] n).toList := ⟨_, rfl⟩
  have hown : w1.ownsRow w.heap.size 5 1 (.slice (some ⟨w.heap.size, 0, none⟩) n n) n M := by rw [hM]; exact hown1
  have hMl : M.length = n := by have := hown.1; omega
  have HM := Lib.hid hMl
  have HO := Lib.hid hown
  have HB := Lib.hid hB1
  clear hown1 hg1 hM hown hMl hB1 hz0 hz1 hz2 hb1 hi
  go_wp2
  go_loopw [4] (fun i wr => ∃ k : Nat, k ≤ n ∧ i = .int .i64 k ∧ Hid (wr.ownsRow w.heap.size 5 1 (.slice (some ⟨w.heap.size, 0, none⟩) n n) n ((Lib.byteCells l).take k ++ M.drop k)) ∧ Hid (Below w.heap.size w wr)) (fun i _ => n - (intOf i).toNat)
  case atStart => exact ⟨0, Nat.zero_le _, rfl, HO, HB⟩
  case round =>
    clear HO HB
    obtain ⟨k, hk, rfl, HO, HB⟩ := hrel
    by_cases hlt : k < n
    · have hkl : k < l.length := by rw [HL.out]; exact hlt
      have c0 : wr.cell? ⟨bb, oo + k, none⟩ = some (.int .u8 (l[k].toNat : Int)) := by rw [HB.out.cell (p := ⟨bb, oo + k, none⟩) hbb]; exact HC.out k hkl
      obtain ⟨y, c1⟩ : ∃ y, wr.cell? ⟨w.heap.size, k, none⟩ = some y := by
        have h := World.ownsRow.cellAt HO.out k (by omega)
        have hlen : ((Lib.byteCells l).take k ++ M.drop k).length = n := by have := HO.out.1; omega
        rw [List.getElem?_eq_getElem (by omega)] at h
        exact ⟨_, h⟩
      have f1 := World.ownsRow.frozenAt HO.out k
      have st := World.ownsRow.stored HO.out k (.int .u8 (l[k].toNat : Int))
      have hset : ((Lib.byteCells l).take k ++ M.drop k).set k (.int .u8 (l[k].toNat : Int)) = (Lib.byteCells l).take (k + 1) ++ M.drop (k + 1) := by
        have hbl : (Lib.byteCells l).length = l.length := Lib.byteCells_length l
        have h := set_step (Lib.byteCells l) M k (by rw [hbl]; exact hkl) (by rw [hbl, HL.out, HM.out])
        have e : (Lib.byteCells l)[k]'(by rw [hbl]; exact hkl) = .int .u8 (l[k].toNat : Int) := by simp [Lib.byteCells]
        rw [e] at h
        exact h
      rw [hset] at st
      have S1 := Lib.hid st.1
      have hB2 : Below w.heap.size w (wr.setCell ⟨w.heap.size, k, none⟩ (.int .u8 (l[k].toNat : Int))) := HB.out.setCell (Nat.le_refl _) _
      have S2 := Lib.hid hB2
      clear st hset hB2
      go_wp2
      go_roundw
      case rel => exact ⟨k + 1, by omega, by go_num, S1, S2⟩
      case measure => simp [intOf]; omega
    · obtain rfl : k = n := by omega
      go_wp2
      go_ret
      refine ⟨_, rfl, ?_, HB.out⟩
      have h := HO.out
      rw [List.take_of_length_le (by rw [Lib.byteCells_length, HL.out]; exact Nat.le_refl _), List.drop_eq_nil_of_le (by rw [HM.out]; exact Nat.le_refl _), List.append_nil] at h
      exact h

/-- appendVarintField onto a slice of the call's own. -/
theorem field_any (B n key v : Nat) (hk : key < 18446744073709551616) (hv : v < 18446744073709551616) (sv : Value) (xs : List Value) (w : World) (hown : w.ownsRow B 5 1 sv n xs) (hBw : B ≤ w.heap.size) (hlim : n ≤ 2000000) :
    Calls Try.prog 7 #[sv, .int .u64 key, .int .u64 v] w fun e w' => ∃ v', e = .returned v' ∧ w'.ownsRow B 5 1 v' (n + (Lib.uvarint key).length + (Lib.uvarint v).length) (xs ++ Lib.byteCells (Lib.uvarint key) ++ Lib.byteCells (Lib.uvarint v)) ∧ Below B w w' := by
  have hl := Lib.uvarint_length64 hk
  have A1 := Lib.hid (Try.binary_AppendUvarint B n key hk sv xs w hown hBw (by omega))
  clear hown
  go_enter Try.func7, Try.ntmps7
  go_wp2_with (go_at_call 11; go_in)
  refine A1.out.mono ?_
  rintro e w1 ⟨v1, rfl, hown1, hB1⟩
  have A2 := Lib.hid (Try.binary_AppendUvarint B _ v hv v1 _ w1 hown1 (Nat.le_trans hBw hB1.size) (by omega))
  clear hown1 A1
  go_wp2_with fail
  refine A2.out.mono ?_
  rintro e w2 ⟨v2, rfl, hown2, hB2⟩
  have R := Lib.hid hown2
  have RB := Lib.hid (hB1.trans hB2)
  clear hown2 hB1 hB2 A2
  go_wp2
  go_ret
  exact ⟨v2, rfl, R.out, RB.out⟩

set_option maxRecDepth 100000 in
set_option maxHeartbeats 800000 in
/-- zzSize: as many bytes as the varint has. -/
theorem size_any (x : Nat) (hx : x < 18446744073709551616) (w : World) :
    Calls Try.prog 10 #[.int .u64 x] w fun e w' => e = .returned (.int .i64 ((Lib.uvarint x).length : Int)) ∧ w' = w := by
  have hl := Lib.uvarint_length64 hx
  go_enter Try.func10, Try.ntmps10
  go_wp2
  go_loop [0, 3] (fun vx vn => ∃ y m : Nat, vx = .int .u64 y ∧ vn = .int .i64 m ∧ y ≤ x ∧ m + (Lib.uvarint y).length ≤ (Lib.uvarint x).length + 1 ∧ (Lib.uvarint x).length + 1 ≤ m + (Lib.uvarint y).length) (fun vx _ => (intOf vx).toNat)
  case atStart => exact ⟨x, 1, rfl, rfl, Nat.le_refl _, by omega, by omega⟩
  case round =>
    obtain ⟨y, m, rfl, rfl, hy, h1, h2⟩ := hrel
    have hp := Lib.uvarint_pos y
    by_cases h : 128 ≤ y
    · have hb : (Lib.uvarint y).length = (Lib.uvarint (y / 128)).length + 1 := by rw [Lib.uvarint_big h]; simp
      have HBig := Lib.hid hb
      clear hb
      go_wp2
      go_round
      case rel => exact ⟨y / 128, m + 1, by go_num, by go_num, by omega, by have := HBig.out; omega, by have := HBig.out; omega⟩
      case measure => simp [intOf]; omega
    · have hb : (Lib.uvarint y).length = 1 := by rw [Lib.uvarint_small (by omega)]; simp
      have HS := Lib.hid hb
      clear hb
      go_wp2
      go_ret
      have e : (m : Int) = ((Lib.uvarint x).length : Int) := by have := HS.out; omega
      exact ⟨ret_int e, rfl⟩
end Go.Proofs.Qxb6616142a
