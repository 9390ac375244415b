/-
  THE SEAT b6615813aF: the shelf's contract of strings.Join at this dump, in plain words (written by the kit's lay-shelf and lay-plain for this program; cut to what is used).
-/
import Derived.Shelf.Strings.Builder1
import Derived.Shelf.Strings.Builder2
import Derived.Shelf.Strings.OnBuilder
import Derived.Test.Qxb6615813aFmtProg
namespace Go.Proofs
open Go.Shelf
def Tryf.lays156_ren : Go.Shelf.Ren := ⟨fun | 156 => 11 | 165 => 15 | 166 => 16 | 169 => 17 | 240 => 21 | 241 => 22 | 276 => 23 | 277 => 24 | n => n, fun | 31 => 30 | 9 => 9 | 3 => 3 | 4 => 4 | 0 => 0 | 20 => 20 | 72 => 41 | 76 => 43 | 70 => 38 | 37 => 39 | 75 => 25 | 127 => 48 | 164 => 52 | 5 => 5 | 80 => 28 | n => n, fun | n => n⟩
theorem Tryf.lays156 : Go.Proofs.Lays.n156 Tryf.prog Tryf.lays156_ren := {
  mixed := by kernel_rfl
  f156 := Tryf.func11.trans (congrArg some (by kernel_rfl))
  f165 := Tryf.func15.trans (congrArg some (by kernel_rfl))
  f166 := Tryf.func16.trans (congrArg some (by kernel_rfl))
  f169 := Tryf.func17.trans (congrArg some (by kernel_rfl))
  f240 := Tryf.func21.trans (congrArg some (by kernel_rfl))
  f241 := Tryf.func22.trans (congrArg some (by kernel_rfl))
  f276 := Tryf.func23.trans (congrArg some (by kernel_rfl))
  f277 := Tryf.func24.trans (congrArg some (by kernel_rfl))
  t0 := Tryf.underlying0
  a0 := Tryf.isAgg0
  z0 := Tryf.sizeOf0
  v0 := Tryf.zeroValue0
  t3 := Tryf.underlying3
  a3 := Tryf.isAgg3
  z3 := Tryf.sizeOf3
  v3 := Tryf.zeroValue3
  t4 := Tryf.underlying4
  a4 := Tryf.isAgg4
  z4 := Tryf.sizeOf4
  v4 := Tryf.zeroValue4
  t9 := Tryf.underlying9
  a9 := Tryf.isAgg9
  z9 := Tryf.sizeOf9
  v9 := Tryf.zeroValue9
  t20 := Tryf.underlying20
  a20 := Tryf.isAgg20
  z20 := Tryf.sizeOf20
  v20 := Tryf.zeroValue20
  t31 := Tryf.underlying30
  a31 := Tryf.isAgg30
  z31 := Tryf.sizeOf30
  v31 := Tryf.zeroValue30
  t37 := Tryf.underlying39
  a37 := Tryf.isAgg39
  z37 := Tryf.sizeOf39
  v37 := Tryf.zeroValue39
  t70 := Tryf.underlying38
  a70 := Tryf.isAgg38
  z70 := Tryf.sizeOf38
  v70 := Tryf.zeroValue38
  t72 := Tryf.underlying41
  a72 := Tryf.isAgg41
  z72 := Tryf.sizeOf41
  v72 := Tryf.zeroValue41
  t75 := Tryf.underlying25
  a75 := Tryf.isAgg25
  z75 := Tryf.sizeOf25
  v75 := Tryf.zeroValue25
  t76 := Tryf.underlying43
  a76 := Tryf.isAgg43
  z76 := Tryf.sizeOf43
  v76 := Tryf.zeroValue43
  t127 := Tryf.underlying48
  a127 := Tryf.isAgg48
  z127 := Tryf.sizeOf48
  v127 := Tryf.zeroValue48
  t164 := Tryf.underlying52
  a164 := Tryf.isAgg52
  z164 := Tryf.sizeOf52
  v164 := Tryf.zeroValue52 }
theorem Tryf.Builder_Extra_156 : Builder.Extra Tryf.prog Tryf.lays156_ren := {
  sizeBuilder := by kernel_rfl
  liesBuilder := by kernel_rfl
  t5 := Tryf.underlying5
  a5 := Tryf.isAgg5
  z5 := Tryf.sizeOf5
  v5 := Tryf.zeroValue5
  infoByte := by kernel_rfl
  cellsByte := by kernel_rfl
  sizeByte := by kernel_rfl
  neB5 := by decide }
open Go.RowKit in
theorem Tryf.strings_Join (bk o c : Nat) (xs : List ByteArray) (sep : ByteArray) (w : World) (hcells : ∀ (j : Nat) x, xs[j]? = some x → w.cell? ⟨bk, o + j, none⟩ = some (.string x)) (hbk : bk < w.heap.size) (hN : xs.length ≤ 140737488355328) (hcap : xs.length ≤ c) (hlen : (Lib.join (xs.map (·.data.toList)) sep.data.toList).length ≤ 140737488355328) :
    Calls Tryf.prog 11 #[.slice (some ⟨bk, o, none⟩) xs.length c, .string sep] w fun e w' => e = .returned (.string ⟨(Lib.join (xs.map (·.data.toList)) sep.data.toList).toArray⟩) ∧ Below w.heap.size w w' := Any.strings_Join Tryf.lays156 Tryf.Builder_Extra_156 bk o c xs sep w hcells hbk hN hcap hlen
end Go.Proofs
