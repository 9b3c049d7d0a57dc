import Derived.Test.YbulkecxuCMain
namespace Go.Proofs.Ybulkecxu.C
open Go.RowKit Go.Deep

set_option maxRecDepth 100000 in
set_option maxHeartbeats 400000 in
theorem early (a1 a2 : Option Addr) (n1 c1 n2 c2 : Nat) (brk : Bool) (kk : Int) (w : World) (h : 1048576 < n1 ∨ 1048576 < n2) :
    Calls Yba.prog 3 #[.slice a1 n1 c1, .slice a2 n2 c2, .bool brk, .int .u16 kk] w fun e w' => e = .returned (.bool true) ∧ Below w.heap.size w w' := by
  have hB : Below w.heap.size w (w.alloc (.cells #[.bool brk] 4)) := (Below.refl _ _).alloc (Nat.le_refl _) _
  by_cases h1 : 1048576 < n1
  · have t1 : decide ((1048576 : Int) < (n1 : Int)) = true := by simp; omega
    go_enter Yba.func3, Yba.ntmps3
    go_wp2
    go_ret
    exact ⟨rfl, hB⟩
  · have t1 : decide ((1048576 : Int) < (n1 : Int)) = false := by simp; omega
    have t2 : decide ((1048576 : Int) < (n2 : Int)) = true := by simp; omega
    go_enter Yba.func3, Yba.ntmps3
    go_wp2
    go_ret
    exact ⟨rfl, hB⟩

theorem walk_all (a1 a2 : Option Addr) (n1 c1 n2 c2 : Nat) (brk : Bool) (kk : Int) (F S : Nat → List Value) (w : World) (hF : Came w a1 n1 F) (hS : Came w a2 n2 S) (hnil : a2 = none → n2 = 0 ∧ c2 = 0) (hk0 : 0 ≤ kk) (hk1 : kk ≤ 65535) :
    Calls Yba.prog 3 #[.slice a1 n1 c1, .slice a2 n2 c2, .bool brk, .int .u16 kk] w fun e w' => e = .returned (.bool true) ∧ Below w.heap.size w w' := by
  by_cases h : 1048576 < n1 ∨ 1048576 < n2
  · exact early a1 a2 n1 c1 n2 c2 brk kk w h
  · exact main_any a1 a2 n1 c1 n2 c2 brk kk F S w hF hS (by omega) (by omega) hnil hk0 hk1

end Go.Proofs.Ybulkecxu.C
