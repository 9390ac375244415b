/-
  THE SEAT b6615813aF: closed facts on fmt's stop, and the contract of fmt.Errorf at the program's one format. By an AI agent.
-/
import Derived.Test.Qxb6615813aFmtProg
import Derived.WalkKit
import Derived.WalkSpells
import Derived.Stop.CallBack
import Derived.Stop.IfaceNil
import GoSem.ClaimData
namespace Go.Proofs.Qxb6615813aFmt
open Go.RowKit Go.Extern.Stop Go.Stop Go.Extern

theorem call18 (args : Array Value) (w : World) : (callFunc 18 args).run Tryf.prog w = ((FmtStop.errorf #[9, 45] #[25] args).run Tryf.prog w).andThen fun v w' => .ok (.value v) w' :=
  run_callFunc_extern Tryf.func18 (by kernel_rfl) (by kernel_rfl) (by kernel_rfl) (by kernel_rfl) args w
theorem guard (name : String) (w : World) : (FmtStop.guard name).run Tryf.prog w = .ok () w := by kernel_rfl
theorem fmt0 : FmtStop.printed? ⟨#[117, 110, 107, 110, 111, 119, 110, 32, 37, 115, 32, 37, 113, 58, 32, 119, 97, 110, 116, 32, 37, 115]⟩ 3 = some [(0, 115, false), (1, 113, false), (2, 115, false)] := by kernel_rfl
theorem fmt0r (w : World) : (FmtDoors.printed ⟨#[117, 110, 107, 110, 111, 119, 110, 32, 37, 115, 32, 37, 113, 58, 32, 119, 97, 110, 116, 32, 37, 115]⟩ 3).run Tryf.prog w = .ok [(0, 115, false), (1, 113, false), (2, 115, false)] w := by kernel_rfl
def shape9 : List UInt8 := [12, 6, 0, 0, 0, 0, 0, 0, 0, 115, 116, 114, 105, 110, 103]
theorem op9_115w (name : String) (x : ByteArray) (w : World) : (FmtStop.operand name true 115 false (.iface 9 (.string x))).run Tryf.prog w = .ok (shape9, FmtStop.pack x.data.toList) w := by kernel_rfl
theorem op9_113w (name : String) (x : ByteArray) (w : World) : (FmtStop.operand name true 113 false (.iface 9 (.string x))).run Tryf.prog w = .ok (shape9, FmtStop.pack x.data.toList) w := by kernel_rfl
theorem ptr49 (w : World) : (FmtStop.ptrTo "errors.errorString").run Tryf.prog w = .ok 49 w := by kernel_rfl
theorem elem49 (w : World) : (elemOf 49).run Tryf.prog w = .ok 51 w := by kernel_rfl
theorem isError49 (w : World) : (FmtDoors.textMethod 49 "Error").run Tryf.prog w = .ok true w := by kernel_rfl
attribute [local go_sem] call18 guard fmt0 fmt0r op9_115w op9_113w ptr49 elem49 isError49

set_option maxHeartbeats 400000 in
/-- fmt.Errorf at the one format that the program hands it, three strings behind it: a new '*errors.errorString', whatever its text. -/
theorem errorf_any (F : Interp) (x0 x1 x2 : ByteArray) (b : Nat) (w : World) (hF : F.answers w.tape)
    (h0 : w.cell? ⟨b, 0, none⟩ = some (.iface 9 (.string x0))) (h1 : w.cell? ⟨b, 1, none⟩ = some (.iface 9 (.string x1))) (h2 : w.cell? ⟨b, 2, none⟩ = some (.iface 9 (.string x2))) :
    Calls Tryf.prog 12 #[.string ⟨#[117, 110, 107, 110, 111, 119, 110, 32, 37, 115, 32, 37, 113, 58, 32, 119, 97, 110, 116, 32, 37, 115]⟩, .slice (some ⟨b, 0, none⟩) 3 3] w fun e w' => ∃ a : Addr, e = .returned (.iface 49 (.pointer (some a))) ∧ Below w.heap.size w w' := by
  have hF' := answers_open hF
  go_enter Tryf.func12, Tryf.ntmps12
  go_wp2
  go_ret
  exact ⟨_, rfl, ((Below.refl _ _).alloc (Nat.le_refl _) _).drew⟩
end Go.Proofs.Qxb6615813aFmt
