import Derived.Test.YbulkecuoCStands
namespace Go.Proofs.Ybulkecuo.C
open Go.RowKit

def After (b : Bool) (w1 : World) (Sb : Nat) (ex : Int) : World := if b then w1 else w1.setCell ⟨Sb, 57, none⟩ (.int .i64 (wrap64 (ex + 1)))

set_option maxRecDepth 100000 in
set_option maxHeartbeats 400000 in
theorem watch_ended (Sb V : Nat) (cy : Value) (w : World) (c4 : w.cell? ⟨V, 4, none⟩ = some (.int .u8 3)) :
    Calls Yba.prog 15 #[.pointer (some ⟨Sb, 0, none⟩), cy, .pointer (some ⟨V, 0, none⟩)] w fun e w' => e = .returned (.tuple #[]) ∧ w' = w := by
  go_enter Yba.func15, Yba.ntmps15
  go_wp2
  refine bodyPost_ret (results_none rfl _ _ _) rfl ?_
  exact ⟨rfl, rfl⟩

set_option maxRecDepth 100000 in
set_option maxHeartbeats 400000 in
theorem watch_chosen (Sb V X : Nat) (cy : Value) (vs : Int) (w : World) (c4 : w.cell? ⟨V, 4, none⟩ = some (.int .u8 vs)) (hvs : (vs == 3) = false) (c1 : w.cell? ⟨V, 1, none⟩ = some (.pointer (some ⟨X, 0, none⟩))) (c7 : w.cell? ⟨X, 7, none⟩ = some (.bool true)) :
    Calls Yba.prog 15 #[.pointer (some ⟨Sb, 0, none⟩), cy, .pointer (some ⟨V, 0, none⟩)] w fun e w' => e = .returned (.tuple #[]) ∧ w' = w := by
  go_enter Yba.func15, Yba.ntmps15
  go_wp2
  refine bodyPost_ret (results_none rfl _ _ _) rfl ?_
  exact ⟨rfl, rfl⟩

set_option maxRecDepth 100000 in
set_option maxHeartbeats 400000 in
theorem watch_open (Sb V X : Nat) (vs ex : Int) (w : World) (c4 : w.cell? ⟨V, 4, none⟩ = some (.int .u8 vs)) (hvs : (vs == 3) = false) (c1 : w.cell? ⟨V, 1, none⟩ = some (.pointer (some ⟨X, 0, none⟩))) (c7 : w.cell? ⟨X, 7, none⟩ = some (.bool false))
    (c57 : w.cell? ⟨Sb, 57, none⟩ = some (.int .i64 ex)) (f57 : w.frozen? ⟨Sb, 57, none⟩ = false)
    (m base : Nat) (T Lf : Nat → Nat) (S : Nat → Int) (Bv : Nat → Value) (L : Nat → List Nat) (C k : Nat) (ix : Nat → Nat) (h : Known w m base T Lf S Bv L) (hT : ∀ i j, i < m → j < m → T i = T j → i = j)
    (hk : k ≤ 65536) (hix : ∀ j, j < k → ix j < m) (hc : ∀ j, j < k → w.cell? ⟨C, j * 3, none⟩ = some (.pointer (some ⟨Lf (ix j), 0, none⟩)) ∧ w.cell? ⟨C, j * 3 + 1, none⟩ = some (.int .i64 0) ∧ w.cell? ⟨C, j * 3 + 2, none⟩ = some (.int .i64 0)) :
    Calls Yba.prog 15 #[.pointer (some ⟨Sb, 0, none⟩), .slice (some ⟨C, 0, none⟩) k k, .pointer (some ⟨V, 0, none⟩)] w fun e w' => e = .returned (.tuple #[]) ∧
      ∃ w1, Below w.heap.size w w1 ∧ w' = After (standsTo S L ix k k) w1 Sb ex := by
  have hst := stands_any w m base T Lf S Bv L C k ix h hT hk hix hc
  go_enter Yba.func15, Yba.ntmps15
  go_wp2_with fail
  refine hst.mono ?_
  rintro e w1 ⟨rfl, hb⟩
  have d57 := cell_keep hb c57
  have g57 := (hb.frozen (p := ⟨Sb, 57, none⟩) (lt_of_cell c57)).trans f57
  clear hst h hc
  cases hh : standsTo S L ix k k with
  | true =>
    go_wp2
    go_end0
    exact ⟨rfl, w1, hb, by rw [hh]; rfl⟩
  | false =>
    go_wp2
    go_end0
    exact ⟨rfl, w1, hb, by rw [hh]; rfl⟩

end Go.Proofs.Ybulkecuo.C
