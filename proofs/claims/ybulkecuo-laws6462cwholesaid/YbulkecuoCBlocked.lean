import Derived.Test.YbulkecuoCIndex
import Derived.Deep.QuietTactic
import Derived.BigQuiet
namespace Go.Proofs.Ybulkecuo.C
open Go.RowKit

set_option maxRecDepth 100000 in
set_option maxHeartbeats 400000 in
theorem blocked_ended (l ly : Nat) (w : World) (c4 : w.cell? ⟨l, 4, none⟩ = some (.int .u8 3)) :
    Calls Yba.prog 26 #[.pointer (some ⟨l, 0, none⟩), .pointer (some ⟨ly, 0, none⟩)] w fun e w' => e = .returned (.bool false) ∧ ∃ n, w' = w.drewN n := by
  go_enter Yba.func26, Yba.ntmps26
  go_wp2
  go_quiet (fail)
  go_wp2
  go_ret
  exact ⟨rfl, _, rfl⟩

set_option maxRecDepth 100000 in
set_option maxHeartbeats 400000 in
theorem blocked_any (base l ly t ty : Nat) (s : Int) (v : Value) (n : Nat) (ts : List Nat) (w : World) (c4 : w.cell? ⟨l, 4, none⟩ = some (.int .u8 s)) (hs : (s != 3) = true)
    (c1 : w.cell? ⟨l, 1, none⟩ = some (.pointer (some ⟨t, 0, none⟩))) (c8 : w.cell? ⟨t, 8, none⟩ = some v) (cy : w.cell? ⟨ly, 1, none⟩ = some (.pointer (some ⟨ty, 0, none⟩)))
    (hown : w.ownsRow base 47 1 v n (ts.map P)) (hn : n ≤ 65536) (ht : IsBlk w ty) (hts : ∀ x ∈ ts, IsBlk w x) :
    Calls Yba.prog 26 #[.pointer (some ⟨l, 0, none⟩), .pointer (some ⟨ly, 0, none⟩)] w fun e w' => e = .returned (.bool (decide (ty ∈ ts))) ∧ ∃ n, w' = w.drewN n := by
  have hcont := fun m => contains_any base v n ts ty (w.drewN m) hown hn ht hts
  clear hown ht hts
  go_enter Yba.func26, Yba.ntmps26
  go_wp2
  go_quiet ((go_at_call 27; exact Calls.quiet_of_same (hcont _)))
  go_wp2
  go_ret
  exact ⟨rfl, _, rfl⟩

end Go.Proofs.Ybulkecuo.C
