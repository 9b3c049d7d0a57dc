import Derived.Test.YbulkecweFmtCards
import Derived.WalkKit
import Derived.WalkSpells
import Derived.WalkLawsBesides
import Derived.Stop.CallBack
import Derived.Stop.IfaceNil
import GoSem.ClaimData
namespace Go.Proofs.YbulkecweFmt
open Go.RowKit Go.Extern.Stop Go.Stop Go.Extern

theorem W.call6 (args : Array Value) (w : World) : (callFunc 6 args).run Ybaf.prog w = ((FmtStop.errorf #[9, 34] #[30] args).run Ybaf.prog w).andThen fun v w' => .ok (.value v) w' :=
  run_callFunc_extern Ybaf.func6 (by kernel_rfl) (by kernel_rfl) (by kernel_rfl) (by kernel_rfl) args w
theorem W.guard (name : String) (w : World) : (FmtStop.guard name).run Ybaf.prog w = .ok () w := by kernel_rfl
theorem W.fmt0 : FmtStop.printed? ⟨#[109, 105, 110, 105, 109, 117, 109, 32, 111, 102, 32, 37, 100, 32, 101, 108, 101, 109, 101, 110, 116, 115, 32, 105, 115, 32, 97, 98, 111, 118, 101, 32, 37, 100]⟩ 2 = some [(0, 100, false), (1, 100, false)] := by kernel_rfl
theorem W.fmt0r (w : World) : (FmtDoors.printed ⟨#[109, 105, 110, 105, 109, 117, 109, 32, 111, 102, 32, 37, 100, 32, 101, 108, 101, 109, 101, 110, 116, 115, 32, 105, 115, 32, 97, 98, 111, 118, 101, 32, 37, 100]⟩ 2).run Ybaf.prog w = .ok [(0, 100, false), (1, 100, false)] w := by kernel_rfl
theorem W.fmt1 : FmtStop.printed? ⟨#[109, 105, 110, 105, 109, 117, 109, 32, 111, 102, 32, 37, 100, 32, 101, 108, 101, 109, 101, 110, 116, 115, 32, 105, 115, 32, 97, 98, 111, 118, 101, 32, 116, 104, 101, 32, 109, 97, 120, 105, 109, 117, 109, 32, 111, 102, 32, 37, 100]⟩ 2 = some [(0, 100, false), (1, 100, false)] := by kernel_rfl
theorem W.fmt1r (w : World) : (FmtDoors.printed ⟨#[109, 105, 110, 105, 109, 117, 109, 32, 111, 102, 32, 37, 100, 32, 101, 108, 101, 109, 101, 110, 116, 115, 32, 105, 115, 32, 97, 98, 111, 118, 101, 32, 116, 104, 101, 32, 109, 97, 120, 105, 109, 117, 109, 32, 111, 102, 32, 37, 100]⟩ 2).run Ybaf.prog w = .ok [(0, 100, false), (1, 100, false)] w := by kernel_rfl
def W.shape3 : List UInt8 := [5, 3, 0, 0, 0, 0, 0, 0, 0, 105, 110, 116]
theorem W.op3 (name : String) (x : Int) (w : World) : (FmtStop.operand name true 100 false (.iface 3 (.int .i64 x))).run Ybaf.prog w = .ok (W.shape3, Go.Extern.Stop.digits 8 (x % 2 ^ 64).toNat) w := by kernel_rfl

def W.shape22 : List UInt8 := [8, 6, 0, 0, 0, 0, 0, 0, 0, 117, 105, 110, 116, 51, 50]
theorem W.op22 (name : String) (x : Int) (w : World) : (FmtStop.operand name true 100 false (.iface 22 (.int .u32 x))).run Ybaf.prog w = .ok (W.shape22, Go.Extern.Stop.digits 8 (x % 2 ^ 64).toNat) w := by kernel_rfl
theorem W.ptr37 (w : World) : (FmtStop.ptrTo "errors.errorString").run Ybaf.prog w = .ok 37 w := by kernel_rfl
theorem W.elem37 (w : World) : (elemOf 37).run Ybaf.prog w = .ok 39 w := by kernel_rfl
theorem W.isError37 (w : World) : (FmtDoors.textMethod 37 "Error").run Ybaf.prog w = .ok true w := by kernel_rfl
attribute [local go_sem] W.call6 W.guard W.fmt0 W.fmt0r W.fmt1 W.fmt1r W.op3 W.op22 W.ptr37 W.elem37 W.isError37

set_option maxHeartbeats 400000 in
theorem validate_high (F : Interp) (el mn mx : Int) (h : Bool) (w : World) (hF : F.answers w.tape) (h1 : 10000000 < mn) :
    Calls Ybaf.prog 4 #[.agg #[.int .u8 el, .int .u32 mn, .int .u32 mx, .bool h]] w fun e w' => (∃ a, e = .returned (.iface 37 (.pointer (some a)))) ∧ Grown w w' := by
  have hF' := answers_open hF
  go_enter Ybaf.func4, Ybaf.ntmps4
  go_wp2
  go_ret
  exact ⟨⟨_, rfl⟩, by repeat (first | exact Grown.refl _ | apply Grown.drew | apply Grown.alloc)⟩

set_option maxHeartbeats 400000 in
theorem validate_cross (F : Interp) (el mn mx : Int) (w : World) (hF : F.answers w.tape) (h1 : ¬ 10000000 < mn) (h2 : mx < mn) :
    Calls Ybaf.prog 4 #[.agg #[.int .u8 el, .int .u32 mn, .int .u32 mx, .bool true]] w fun e w' => (∃ a, e = .returned (.iface 37 (.pointer (some a)))) ∧ Grown w w' := by
  have hF' := answers_open hF
  go_enter Ybaf.func4, Ybaf.ntmps4
  go_wp2
  go_ret
  exact ⟨⟨_, rfl⟩, by repeat (first | exact Grown.refl _ | apply Grown.drew | apply Grown.alloc)⟩

set_option maxHeartbeats 400000 in
theorem validate_ok (el mn mx : Int) (h : Bool) (w : World) (h1 : ¬ 10000000 < mn) (h2 : h = true → ¬ mx < mn) :
    Calls Ybaf.prog 4 #[.agg #[.int .u8 el, .int .u32 mn, .int .u32 mx, .bool h]] w fun e w' => e = .returned .nilIface ∧ Grown w w' := by
  cases h with
  | true =>
    have h3 := h2 rfl
    clear h2
    go_enter Ybaf.func4, Ybaf.ntmps4
    go_wp2
    go_ret
    exact ⟨rfl, by repeat (first | exact Grown.refl _ | apply Grown.drew | apply Grown.alloc)⟩
  | false =>
    clear h2
    go_enter Ybaf.func4, Ybaf.ntmps4
    go_wp2
    go_ret
    exact ⟨rfl, by repeat (first | exact Grown.refl _ | apply Grown.drew | apply Grown.alloc)⟩

end Go.Proofs.YbulkecweFmt
