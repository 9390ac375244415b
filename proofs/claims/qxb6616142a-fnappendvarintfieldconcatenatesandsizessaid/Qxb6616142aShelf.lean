/-
  THE SEAT b6616142a: the shelf's contract of binary.AppendUvarint at this dump, in plain words (written by the kit's lay-shelf and lay-plain for this program).
-/
import Derived.Shelf.Bin.AppendUvarint
import Derived.Test.Qxb6616142aProg
namespace Go.Proofs
open Go.Shelf
def Try.laysBin47_ren : Go.Shelf.Ren := ⟨fun | 47 => 12 | n => n, fun | 22 => 22 | 33 => 23 | 4 => 4 | 5 => 5 | 45 => 31 | n => n, fun | n => n⟩
theorem Try.laysBin47 : Go.Proofs.LaysBin.n47 Try.prog Try.laysBin47_ren := {
  mixed := by kernel_rfl
  f47 := Try.func12.trans (congrArg some (by kernel_rfl))
  t4 := Try.underlying4
  a4 := Try.isAgg4
  z4 := Try.sizeOf4
  v4 := Try.zeroValue4
  i4 := by kernel_rfl
  t5 := Try.underlying5
  a5 := Try.isAgg5
  z5 := Try.sizeOf5
  v5 := Try.zeroValue5
  i5 := by kernel_rfl
  t22 := Try.underlying22
  a22 := Try.isAgg22
  z22 := Try.sizeOf22
  v22 := Try.zeroValue22
  i22 := by kernel_rfl
  t33 := Try.underlying23
  a33 := Try.isAgg23
  z33 := Try.sizeOf23
  v33 := Try.zeroValue23
  i33 := by kernel_rfl
  t45 := Try.underlying31
  a45 := Try.isAgg31
  z45 := Try.sizeOf31
  v45 := Try.zeroValue31
  i45 := by kernel_rfl }
open Go.RowKit in
theorem Try.binary_AppendUvarint (B n x : Nat) (hx : x < 18446744073709551616) (sv : Value) (xs : List Value) (w : World) (hown : w.ownsRow B 5 1 sv n xs) (hBw : B ≤ w.heap.size) (hlim : n + 10 ≤ 140737488355328) :
    Calls Try.prog 12 #[sv, .int .u64 x] w fun e w' => ∃ v', e = .returned v' ∧ w'.ownsRow B 5 1 v' (n + (Lib.uvarint x).length) (xs ++ Lib.byteCells (Lib.uvarint x)) ∧ Below B w w' := Any.binary_AppendUvarint Try.laysBin47 B n x hx sv xs w hown hBw hlim
end Go.Proofs
