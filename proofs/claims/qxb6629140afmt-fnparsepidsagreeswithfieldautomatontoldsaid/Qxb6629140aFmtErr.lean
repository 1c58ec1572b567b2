/-
  fmt.Errorf at this program's one format: an error that is not nil, whatever text fmt gives.
-/
import Derived.Test.Qxb6629140aFmtRows
import Derived.Stop.CallBack
import Derived.Stop.IfaceNil
import Derived.WalkKit
import Derived.WalkSpells
import Derived.BigCall
namespace Go.Proofs.Qxb6629140aFmt
open Go.RowKit Go.Extern.Stop Go.Stop Go.Extern

theorem call20 (args : Array Value) (w : World) : (callFunc 20 args).run Tryf.prog w = ((FmtStop.errorf #[9, 45] #[25] args).run Tryf.prog w).andThen fun v w' => .ok (.value v) w' :=
  run_callFunc_extern Tryf.func20 (by kernel_rfl) (by kernel_rfl) (by kernel_rfl) (by kernel_rfl) args w
theorem guardF (name : String) (w : World) : (FmtStop.guard name).run Tryf.prog w = .ok () w := by kernel_rfl
theorem fmt0 : FmtStop.printed? ⟨#[37, 115, 58, 32, 37, 113, 32, 105, 115, 32, 110, 111, 116, 32, 97, 32, 112, 114, 111, 99, 101, 115, 115, 32, 73, 68]⟩ 2 = some [(0, 115, false), (1, 113, false)] := by kernel_rfl
theorem fmt0r (w : World) : (FmtDoors.printed ⟨#[37, 115, 58, 32, 37, 113, 32, 105, 115, 32, 110, 111, 116, 32, 97, 32, 112, 114, 111, 99, 101, 115, 115, 32, 73, 68]⟩ 2).run Tryf.prog w = .ok [(0, 115, false), (1, 113, false)] w := by kernel_rfl
def shape9 : List UInt8 := [12, 6, 0, 0, 0, 0, 0, 0, 0, 115, 116, 114, 105, 110, 103]
theorem op9_115w (name : String) (x : ByteArray) (w : World) : (FmtStop.operand name true 115 false (.iface 9 (.string x))).run Tryf.prog w = .ok (shape9, FmtStop.pack x.data.toList) w := by kernel_rfl
theorem op9_113w (name : String) (x : ByteArray) (w : World) : (FmtStop.operand name true 113 false (.iface 9 (.string x))).run Tryf.prog w = .ok (shape9, FmtStop.pack x.data.toList) w := by kernel_rfl
theorem ptr60 (w : World) : (FmtStop.ptrTo "errors.errorString").run Tryf.prog w = .ok 60 w := by kernel_rfl
theorem elem60 (w : World) : (elemOf 60).run Tryf.prog w = .ok 62 w := by kernel_rfl
theorem isError60 (w : World) : (FmtDoors.textMethod 60 "Error").run Tryf.prog w = .ok true w := by kernel_rfl
attribute [local go_sem] call20 guardF fmt0 fmt0r op9_115w op9_113w ptr60 elem60 isError60

set_option maxHeartbeats 400000 in
theorem errorf_walk (F : Interp) (nm f : ByteArray) (blk : Nat) (w : World) (hF : F.answers w.tape)
    (hc0 : w.cell? ⟨blk, 0, none⟩ = some (.iface 9 (.string nm))) (hc1 : w.cell? ⟨blk, 1, none⟩ = some (.iface 9 (.string f))) :
    Calls Tryf.prog 14 #[.string ⟨#[37, 115, 58, 32, 37, 113, 32, 105, 115, 32, 110, 111, 116, 32, 97, 32, 112, 114, 111, 99, 101, 115, 115, 32, 73, 68]⟩, .slice (some ⟨blk, 0, none⟩) 2 2] w fun e w' =>
      e = .returned (.iface 60 (.pointer (some ⟨w.heap.size, 0, none⟩))) ∧ Below w.heap.size w w' := by
  have hF' := answers_open hF
  go_enter Tryf.func14, Tryf.ntmps14
  go_wp2
  go_ret
  exact ⟨rfl, ((Below.refl _ w).alloc (Nat.le_refl _) _).drew⟩
end Go.Proofs.Qxb6629140aFmt
