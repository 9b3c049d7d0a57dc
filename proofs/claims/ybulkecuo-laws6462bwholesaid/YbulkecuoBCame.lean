import Derived.Test.YbulkecuoBPool
namespace Go.Proofs.Ybulkecuo.B
set_option linter.unusedVariables false
set_option linter.unusedSimpArgs false
open Go.RowKit Go.Deep

/-- A slice of pairs of bytes that came in. -/
def Came2 (w : World) (a : Option Addr) (len : Nat) (T M : Nat → Int) : Prop :=
  ∀ i, i < len → ∃ b off, a = some ⟨b, off, none⟩ ∧ ∀ j, j < len → w.cell? ⟨b, off + j * 2, none⟩ = some (.int .u8 (T j)) ∧ w.cell? ⟨b, off + j * 2 + 1, none⟩ = some (.int .u8 (M j))
theorem Came2.keep {w w' : World} {a : Option Addr} {len : Nat} {T M : Nat → Int} (h : Came2 w a len T M) (hb : Below w.heap.size w w') : Came2 w' a len T M := by
  intro i hi
  obtain ⟨b, off, ha, hc⟩ := h i hi
  exact ⟨b, off, ha, fun j hj => ⟨cell_keep hb (lt_of_cell (hc j hj).1) (hc j hj).1, cell_keep hb (lt_of_cell (hc j hj).2) (hc j hj).2⟩⟩

end Go.Proofs.Ybulkecuo.B
