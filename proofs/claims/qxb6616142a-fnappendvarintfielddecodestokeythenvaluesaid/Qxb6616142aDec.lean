/-
  THE SEAT b6616142a: the walk of the law 'FnAppendVarintFieldDecodesToKeyThenValue'. By an AI agent.
-/
import Derived.Test.Qxb6616142aRowOf
import Derived.Deep.QuietTactic
import Derived.BigQuiet
namespace Go.Proofs.Qxb6616142a
open Go.RowKit

set_option maxHeartbeats 1600000 in
theorem dec_pos (key v cap : Nat) (bb oo : Nat) (l : List UInt8) (hk : key < 18446744073709551616) (hv : v < 18446744073709551616) (w : World) (hlim : l.length ≤ 1048576) (hin : In w (some ⟨bb, oo, none⟩) l.length cap l) (hbb : bb < w.heap.size) (HC : Hid (∀ k (hk : k < l.length), w.cell? ⟨bb, oo + k, none⟩ = some (.int .u8 (l[k].toNat : Int)))) :
    Calls Try.prog 3 #[.slice (some ⟨bb, oo, none⟩) l.length cap, .int .u64 key, .int .u64 v] w fun e w' => e = .returned (.bool true) ∧ Below w.heap.size w w' := by
  have K1 := Lib.hid (clone_any hin hlim)
  have hb := fld_bounds key v hk hv
  have hfl := fld_length key v
  have HF := Lib.hid hfl
  clear hfl hin
  go_enter Try.func3, Try.ntmps3
  go_wp2_with (go_at_call 5; go_in)
  refine K1.out.mono ?_
  rintro e w1 ⟨v1, rfl, hown1, hB1⟩
  have K2 := Lib.hid (field_row w.heap.size key v hk hv v1 l w1 hown1 hB1.size (by omega))
  have HB1 := Lib.hid hB1
  clear K1 hown1 hB1
  go_wp2_with fail
  refine K2.out.mono ?_
  rintro e w2 ⟨g, c, rfl, hc1, hc2, hgz, _, hA, hD, hB2⟩
  have HB := Lib.hid (HB1.out.trans hB2)
  have U1 := Lib.hid (fun q => uv_any g (l.length + (fld key v).length) c l.length key hk (w2.drewN q) (by omega) (by have := HF.out; omega) (fun j hj => by
    rw [World.cell?_drewN, hD j (by have := HF.out; omega)]
    have e : (fld key v)[j]'(by have := HF.out; omega) = (Lib.uvarint key)[j] := by simp [fld, List.getElem_append_left hj]
    rw [e]))
  have U2 := Lib.hid (fun q => uv_any g (l.length + (fld key v).length) c (l.length + (Lib.uvarint key).length) v hv (w2.drewN q) (by omega) (by have := HF.out; omega) (fun j hj => by
    rw [World.cell?_drewN, Nat.add_assoc, hD ((Lib.uvarint key).length + j) (by have := HF.out; omega)]
    have e : (fld key v)[(Lib.uvarint key).length + j]'(by have := HF.out; omega) = (Lib.uvarint v)[j] := by simp [fld]
    rw [e]))
  rw [show l.length + (Lib.uvarint key).length + (Lib.uvarint v).length = l.length + (fld key v).length from by rw [HF.out]; omega] at U2
  generalize l.length + (Lib.uvarint key).length = at1 at U1 U2
  have HA := Lib.hid hA
  unfold maxLen at hc2
  clear K2 hA hD hB2 HB1
  go_wp2_with fail
  go_loopw [9] (fun i wr => ∃ (k q : Nat), k ≤ l.length ∧ i = .int .i64 k ∧ wr = w2.drewN q) (fun i _ => l.length - (intOf i).toNat)
  case atStart => exact ⟨0, 0, by omega, rfl, rfl⟩
  case round =>
    obtain ⟨k, q, hkl, rfl, rfl⟩ := hrel
    by_cases hlt : k < l.length
    · have e1 : w2.cell? ⟨g, k, none⟩ = some (.int .u8 (l[k].toNat : Int)) := HA.out k hlt
      have e2 : w2.cell? ⟨bb, oo + k, none⟩ = some (.int .u8 (l[k].toNat : Int)) := by rw [HB.out.cell (p := ⟨bb, oo + k, none⟩) hbb]; exact HC.out k hlt
      have hi : (k : Int) < (l.length : Int) := by omega
      have hi2 : (k : Int) < ((l.length + (fld key v).length : Nat) : Int) := by omega
      go_wp2_with fail
      go_quiet (fail)
      go_wp2
      go_roundw
      case rel => exact ⟨k + 1, _, by omega, by go_num, rfl⟩
      case measure => simp [intOf]; omega
    · go_wp2_with fail
      refine (U1.out q).mono ?_
      rintro e w3 ⟨rfl, rfl⟩
      go_wp2_with fail
      refine (U2.out q).mono ?_
      rintro e w4 ⟨rfl, rfl⟩
      go_wp2
      go_ret
      have hb' := HB.out
      exact ⟨rfl, ⟨hb'.os, hb'.tape, hb'.output, hb'.size, hb'.block⟩⟩

set_option maxHeartbeats 1600000 in
theorem dec_zero (key v cap : Nat) (a : Option Addr) (l : List UInt8) (hk : key < 18446744073709551616) (hv : v < 18446744073709551616) (w : World) (hlim : l.length ≤ 1048576) (hin : In w a l.length cap l) (h0 : l.length ≤ 0) :
    Calls Try.prog 3 #[.slice a l.length cap, .int .u64 key, .int .u64 v] w fun e w' => e = .returned (.bool true) ∧ Below w.heap.size w w' := by
  have K1 := Lib.hid (clone_any hin hlim)
  have hb := fld_bounds key v hk hv
  have hfl := fld_length key v
  have HF := Lib.hid hfl
  clear hfl hin
  go_enter Try.func3, Try.ntmps3
  go_wp2_with (go_at_call 5; go_in)
  refine K1.out.mono ?_
  rintro e w1 ⟨v1, rfl, hown1, hB1⟩
  have K2 := Lib.hid (field_row w.heap.size key v hk hv v1 l w1 hown1 hB1.size (by omega))
  have HB1 := Lib.hid hB1
  clear K1 hown1 hB1
  go_wp2_with fail
  refine K2.out.mono ?_
  rintro e w2 ⟨g, c, rfl, hc1, hc2, hgz, _, hA, hD, hB2⟩
  have HB := Lib.hid (HB1.out.trans hB2)
  have U1 := Lib.hid (fun q => uv_any g (l.length + (fld key v).length) c l.length key hk (w2.drewN q) (by omega) (by have := HF.out; omega) (fun j hj => by
    rw [World.cell?_drewN, hD j (by have := HF.out; omega)]
    have e : (fld key v)[j]'(by have := HF.out; omega) = (Lib.uvarint key)[j] := by simp [fld, List.getElem_append_left hj]
    rw [e]))
  have U2 := Lib.hid (fun q => uv_any g (l.length + (fld key v).length) c (l.length + (Lib.uvarint key).length) v hv (w2.drewN q) (by omega) (by have := HF.out; omega) (fun j hj => by
    rw [World.cell?_drewN, Nat.add_assoc, hD ((Lib.uvarint key).length + j) (by have := HF.out; omega)]
    have e : (fld key v)[(Lib.uvarint key).length + j]'(by have := HF.out; omega) = (Lib.uvarint v)[j] := by simp [fld]
    rw [e]))
  rw [show l.length + (Lib.uvarint key).length + (Lib.uvarint v).length = l.length + (fld key v).length from by rw [HF.out]; omega] at U2
  generalize l.length + (Lib.uvarint key).length = at1 at U1 U2
  have HA := Lib.hid hA
  unfold maxLen at hc2
  clear K2 hA hD hB2 HB1
  go_wp2_with fail
  go_loopw [9] (fun i wr => ∃ (k q : Nat), k ≤ l.length ∧ i = .int .i64 k ∧ wr = w2.drewN q) (fun i _ => l.length - (intOf i).toNat)
  case atStart => exact ⟨0, 0, by omega, rfl, rfl⟩
  case round =>
    obtain ⟨k, q, hkl, rfl, rfl⟩ := hrel
    by_cases hlt : k < l.length
    · exfalso; omega
    · go_wp2_with fail
      refine (U1.out q).mono ?_
      rintro e w3 ⟨rfl, rfl⟩
      go_wp2_with fail
      refine (U2.out q).mono ?_
      rintro e w4 ⟨rfl, rfl⟩
      go_wp2
      go_ret
      have hb' := HB.out
      exact ⟨rfl, ⟨hb'.os, hb'.tape, hb'.output, hb'.size, hb'.block⟩⟩

theorem dec_any (key v n cap : Nat) (a : Option Addr) (l : List UInt8) (hk : key < 18446744073709551616) (hv : v < 18446744073709551616) (w : World) (hlim : n ≤ 1048576) (hin : In w a n cap l) :
    Calls Try.prog 3 #[.slice a n cap, .int .u64 key, .int .u64 v] w fun e w' => e = .returned (.bool true) ∧ Below w.heap.size w w' := by
  have hin0 := hin
  obtain ⟨rfl, _, hc⟩ := hin
  rcases hc with h0 | ⟨bb, oo, rfl, hbb, hcell⟩
  · exact dec_zero key v cap a l hk hv w hlim hin0 (by omega)
  · exact dec_pos key v cap bb oo l hk hv w hlim hin0 hbb hcell

set_option maxHeartbeats 800000 in
theorem dec_long (key v : Int) (a : Option Addr) (n cap : Nat) (w : World) (hn : 1048576 < n) (hm : n ≤ maxLen) :
    Calls Try.prog 3 #[.slice a n cap, .int .u64 key, .int .u64 v] w fun e w' => e = .returned (.bool true) ∧ Below w.heap.size w w' := by
  unfold maxLen at hm
  go_enter Try.func3, Try.ntmps3
  go_wp2
  all_goals (go_ret; exact ⟨rfl, Below.refl _ _⟩)
end Go.Proofs.Qxb6616142a
