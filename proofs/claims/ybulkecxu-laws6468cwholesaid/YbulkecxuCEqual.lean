import Derived.Test.YbulkecxuCBase
import Derived.Deep.LoopGhost
namespace Go.Proofs.Ybulkecxu.C
open Go.RowKit Go.Deep

/-- A slice of members: its elements' cells. -/
def Came (w : World) (a : Option Addr) (len : Nat) (E : Nat → List Value) : Prop :=
  ∀ i, i < len → Mem (E i) ∧ ∃ b off, a = some ⟨b, off, none⟩ ∧ ∀ j, j < len → w.rangeAt b (off + j * 21) (E j)

attribute [local go_sem ↓] toLd28 toNq28

theorem range_drewN (w : World) (n b o : Nat) (cs : List Value) (h : w.rangeAt b o cs) : (w.drewN n).rangeAt b o cs := h

set_option maxRecDepth 100000 in
set_option maxHeartbeats 1000000 in
/-- slices.Equal of two rows that hold the same. -/
theorem equal_any (a1 a2 : Option Addr) (n c1 c2 : Nat) (E : Nat → List Value) (w : World) (h1 : Came w a1 n E) (h2 : Came w a2 n E) (hn : n ≤ 1048576) :
    Calls Yba.prog 7 #[.slice a1 n c1, .slice a2 n c2] w fun e w' => e = .returned (.bool true) ∧ ∃ k, w' = w.drewN k := by
  go_enter Yba.func7, Yba.ntmps7
  go_wp2
  go_loopw [13] (fun i wr => ∃ k d : Nat, k ≤ n ∧ i = .int .i64 k ∧ wr = w.drewN d) (fun i _ => n - (intOf i).toNat)
  case atStart => exact ⟨0, 0, Nat.zero_le _, rfl, rfl⟩
  case round =>
    obtain ⟨k, d, hk, rfl, rfl⟩ := hrel
    by_cases hlt : k < n
    · obtain ⟨hm, b1, o1, rfl, r1⟩ := h1 k hlt
      obtain ⟨_, b2, o2, rfl, r2⟩ := h2 k hlt
      have q1 := fun d => load_mem (w.drewN d) b1 (o1 + k * 21) (E k) hm (r1 k hlt)
      have q2 := fun d => load_mem (w.drewN d) b2 (o2 + k * 21) (E k) hm (r2 k hlt)
      have hq := fun d => nq_mem (E k) hm (w.drewN d)
      have i0 : (0 : Int) ≤ (k : Int) := by omega
      have i1 : (k : Int) < (n : Int) := by omega
      clear hm r1 r2 h1 h2
      go_wp2
      go_quiet (fail)
      go_wp2
      go_roundw
      case rel => exact ⟨k + 1, _, by omega, by go_num, rfl⟩
      case measure => simp [intOf]; omega
    · have : n = k := by omega
      subst this
      go_wp2
      go_ret
      exact ⟨rfl, d, rfl⟩

end Go.Proofs.Ybulkecxu.C
