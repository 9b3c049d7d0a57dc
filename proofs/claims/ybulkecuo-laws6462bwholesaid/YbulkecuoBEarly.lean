import Derived.Test.YbulkecuoBMain
namespace Go.Proofs.Ybulkecuo.B
set_option linter.unusedVariables false
set_option linter.unusedSimpArgs false
open Go.RowKit Go.Deep

set_option maxRecDepth 100000 in
set_option maxHeartbeats 800000 in
theorem early (G xa : Int) (a0 a1 : Option Addr) (n0 c0 n1 c1 : Nat) (w : World) (b0 : n0 ≤ 70368744177664) (b1 : n1 ≤ 70368744177664) (h : 65536 < n0 + n1 ∨ n1 = 0) :
    Calls Yba.prog 4 #[.slice a0 n0 c0, .slice a1 n1 c1, .int .u8 xa, .int .u8 G] w fun e w' => e = .returned (.bool true) ∧ Below w.heap.size w w' := by
  have t3 : IntKind.i64.wrap ((n0 : Int) + (n1 : Int)) = (n0 : Int) + (n1 : Int) := by rw [IntKind.wrap_i64]; omega
  by_cases h3 : 65536 < n0 + n1
  · have t1 : decide ((65536 : Int) < (n0 : Int) + (n1 : Int)) = true := by simp; omega
    clear h b0 b1 h3
    go_enter Yba.func4, Yba.ntmps4
    go_wp2
    go_ret
    exact ⟨rfl, (Below.refl _ _).alloc (Nat.le_refl _) _⟩
  · have t1 : decide ((65536 : Int) < (n0 : Int) + (n1 : Int)) = false := by simp; omega
    have t2 : ((n1 : Int) == 0) = true := by simp; omega
    clear h b0 b1 h3
    go_enter Yba.func4, Yba.ntmps4
    go_wp2
    go_ret
    exact ⟨rfl, (Below.refl _ _).alloc (Nat.le_refl _) _⟩

theorem walk_all (G xa : Int) (a0 a1 : Option Addr) (n0 c0 n1 c1 : Nat) (T M T' M' : Nat → Int) (w : World) (b0 : n0 ≤ 70368744177664) (b1 : n1 ≤ 70368744177664) (hc0 : Came2 w a0 n0 T M) (hc1 : Came2 w a1 n1 T' M')
    (bT : ∀ i, 0 ≤ T i ∧ T i ≤ 255) (bM : ∀ i, 0 ≤ M i ∧ M i ≤ 255) (bT' : ∀ i, 0 ≤ T' i ∧ T' i ≤ 255) (bM' : ∀ i, 0 ≤ M' i ∧ M' i ≤ 255) (bG : 0 ≤ G ∧ G ≤ 255) (bx : 0 ≤ xa ∧ xa ≤ 255) :
    Calls Yba.prog 4 #[.slice a0 n0 c0, .slice a1 n1 c1, .int .u8 xa, .int .u8 G] w fun e w' => e = .returned (.bool true) ∧ Below w.heap.size w w' := by
  by_cases h : 65536 < n0 + n1 ∨ n1 = 0
  · exact early G xa a0 a1 n0 c0 n1 c1 w b0 b1 h
  · exact main_walk G xa a0 a1 n0 c0 n1 c1 T M T' M' w (by omega) (by omega) hc0 hc1 bT bM bT' bM' bG bx

end Go.Proofs.Ybulkecuo.B
