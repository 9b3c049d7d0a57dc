import Derived.Test.YbulkectmFmtAGraph
import Derived.Stop.CallBack
import Derived.Stop.IfaceNil
import GoSem.ClaimData
namespace Go.Proofs.YbulkectmFmt.A
set_option linter.unusedVariables false
set_option linter.unusedSimpArgs false
open Go.RowKit Go.Extern.Stop Go.Stop Go.Extern

theorem W.call21 (args : Array Value) (w : World) : (callFunc 21 args).run Ybaf.prog w = ((FmtStop.errorf #[9, 83] #[52] args).run Ybaf.prog w).andThen fun v w' => .ok (.value v) w' :=
  run_callFunc_extern Ybaf.func21 (by kernel_rfl) (by kernel_rfl) (by kernel_rfl) (by kernel_rfl) args w
theorem W.guard (name : String) (w : World) : (FmtStop.guard name).run Ybaf.prog w = .ok () w := by kernel_rfl
theorem W.fmt0 : FmtStop.printed? ⟨#[103, 114, 97, 112, 104, 32, 104, 97, 115, 32, 110, 111, 32, 110, 111, 100, 101, 32, 37, 113]⟩ 1 = some [(0, 113, false)] := by kernel_rfl
theorem W.fmt0r (w : World) : (FmtDoors.printed ⟨#[103, 114, 97, 112, 104, 32, 104, 97, 115, 32, 110, 111, 32, 110, 111, 100, 101, 32, 37, 113]⟩ 1).run Ybaf.prog w = .ok [(0, 113, false)] w := by kernel_rfl
def opA : List UInt8 := [12, 6, 0, 0, 0, 0, 0, 0, 0, 115, 116, 114, 105, 110, 103]
def opB : List UInt8 := [7, 0, 0, 0, 0, 0, 0, 0, 109, 105, 115, 115, 105, 110, 103]
theorem W.op9 (name : String) (w : World) : (FmtStop.operand name true 113 false (.iface 9 (.string missing))).run Ybaf.prog w = .ok (opA, opB) w := by kernel_rfl
theorem W.ptr (w : World) : (FmtStop.ptrTo "errors.errorString").run Ybaf.prog w = .ok 89 w := by kernel_rfl
theorem W.elem (w : World) : (elemOf 89).run Ybaf.prog w = .ok 91 w := by kernel_rfl
theorem W.isError (w : World) : (FmtDoors.textMethod 89 "Error").run Ybaf.prog w = .ok true w := by kernel_rfl
attribute [local go_sem] W.call21 W.guard W.fmt0 W.fmt0r W.op9 W.ptr W.elem W.isError

set_option maxHeartbeats 1000000 in
/-- fmt.Errorf of the one text that is met. -/
theorem errorf_any (F : Interp) (w : World) (hF : F.answers w.tape) (b : Nat) (hb : w.cell? ⟨b, 0, none⟩ = some (.iface 9 (.string missing))) :
    Calls Ybaf.prog 16 #[.string ⟨#[103, 114, 97, 112, 104, 32, 104, 97, 115, 32, 110, 111, 32, 110, 111, 100, 101, 32, 37, 113]⟩, .slice (some ⟨b, 0, none⟩) 1 1] w fun e w' => (∃ a, e = .returned (.iface 89 (.pointer (some a)))) ∧ Below w.heap.size w w' := by
  have hF' := answers_open hF
  go_enter Ybaf.func16, Ybaf.ntmps16
  go_wp2
  go_ret
  exact ⟨⟨_, rfl⟩, by repeat (first | exact Below.refl _ _ | apply Below.drew | refine Below.alloc ?_ (by simp) _)⟩

end Go.Proofs.YbulkectmFmt.A
