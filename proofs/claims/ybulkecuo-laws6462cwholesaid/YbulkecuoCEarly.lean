import Derived.Test.YbulkecuoCMain
namespace Go.Proofs.Ybulkecuo.C
open Go.RowKit

set_option maxRecDepth 100000 in
set_option maxHeartbeats 400000 in
theorem early (a0 a1 : Int) (a2 : Bool) (a3 a4 a5 : Option Addr) (len3 cap3 len4 cap4 len5 cap5 : Nat) (w : World) (h : 1024 < len3 ∨ 65536 < len4 ∨ 65536 < len5) :
    Calls Yba.prog 5 #[.int .i64 a0, .int .u8 a1, .bool a2, .slice a3 len3 cap3, .slice a4 len4 cap4, .slice a5 len5 cap5] w fun e w' => e = .returned (.bool true) ∧ Below w.heap.size w w' := by
  by_cases h3 : 1024 < len3
  · have h3' : decide ((1024 : Int) < (len3 : Int)) = true := by simp; omega
    go_enter Yba.func5, Yba.ntmps5
    go_wp2
    all_goals (go_ret; exact ⟨rfl, Below.refl _ _⟩)
  · have h3' : decide ((1024 : Int) < (len3 : Int)) = false := by simp; omega
    by_cases h4 : 65536 < len4
    · have h4' : decide ((65536 : Int) < (len4 : Int)) = true := by simp; omega
      go_enter Yba.func5, Yba.ntmps5
      go_wp2
      go_ret
      exact ⟨rfl, Below.refl _ _⟩
    · have h4' : decide ((65536 : Int) < (len4 : Int)) = false := by simp; omega
      have h5 : 65536 < len5 := by omega
      have h5' : decide ((65536 : Int) < (len5 : Int)) = true := by simp; omega
      go_enter Yba.func5, Yba.ntmps5
      go_wp2
      go_ret
      exact ⟨rfl, Below.refl _ _⟩

theorem walk_all (a0 a1 : Int) (a2 : Bool) (a3 a4 a5 : Option Addr) (len3 cap3 len4 cap4 len5 cap5 : Nat) (z3 z4 z5 : Nat → Int) (w : World) (c3 : Came .u8 w a3 len3 z3) (c4 : Came .u16 w a4 len4 z4) (c5 : Came .u8 w a5 len5 z5)
    (b3 : ∀ i, 0 ≤ z3 i ∧ z3 i ≤ 255) (b4 : ∀ i, 0 ≤ z4 i ∧ z4 i ≤ 65535) (b5 : ∀ i, 0 ≤ z5 i ∧ z5 i ≤ 255) (bv : 0 ≤ a1 ∧ a1 ≤ 255) :
    Calls Yba.prog 5 #[.int .i64 a0, .int .u8 a1, .bool a2, .slice a3 len3 cap3, .slice a4 len4 cap4, .slice a5 len5 cap5] w fun e w' => e = .returned (.bool true) ∧ Below w.heap.size w w' := by
  by_cases h : 1024 < len3 ∨ 65536 < len4 ∨ 65536 < len5
  · exact early a0 a1 a2 a3 a4 a5 len3 cap3 len4 cap4 len5 cap5 w h
  · exact main_walk a0 a1 a2 a3 a4 a5 len3 cap3 len4 cap4 len5 cap5 z3 z4 z5 w (by omega) (by omega) (by omega) c3 c4 c5 b3 b4 b5 bv (len3 + 1) (by omega)

end Go.Proofs.Ybulkecuo.C
