import Derived.Test.YbulkecuoBBase
import Derived.OpenShut
namespace Go.Proofs.Ybulkecuo.B
open Go.RowKit

/-- Is bit i of G set? -/
def goneB (G : Int) (i : Nat) : Bool := bits .and .u8 (G / 2 ^ i) 1 == 1

theorem wrap_u64_8 : ∀ i : Fin 8, IntKind.u64.wrap ((i.val : Nat) : Int) = ((i.val : Nat) : Int) ∧ bits .and .u64 ((i.val : Nat) : Int) 7 = ((i.val : Nat) : Int) := by decide +kernel

set_option maxRecDepth 100000 in
set_option maxHeartbeats 1000000 in
theorem gone_any (t gb i : Nat) (G : Int) (w : World) (hi : i < 8) (cg : w.cell? ⟨gb, 0, none⟩ = some (.int .u8 G)) (ct : w.cell? ⟨t, 1, none⟩ = some (.int .i64 (i : Int))) :
    Calls Yba.prog 9 #[.pointer (some ⟨t, 0, none⟩), .pointer (some ⟨gb, 0, none⟩)] w fun e w' => e = .returned (.bool (goneB G i)) ∧ ∃ n, w' = w.drewN n := by
  obtain ⟨e1, e2⟩ := wrap_u64_8 ⟨i, hi⟩
  have e1' : IntKind.u64.wrap (i : Int) = (i : Int) := e1
  have e2' : bits .and .u64 (i : Int) 7 = (i : Int) := e2
  clear e1 e2
  have i0 : (0 : Int) ≤ (i : Int) := by omega
  have i1 : (i : Int) ≤ 8 := by omega
  go_enter Yba.func9, Yba.ntmps9
  go_wp2
  go_quiet (fail)
  go_wp2
  go_ret
  exact ⟨rfl, _, rfl⟩
end Go.Proofs.Ybulkecuo.B
