import Derived.Test.YbulkecuoCStage4
import Derived.Test.YbulkecuoCWatch2
namespace Go.Proofs.Ybulkecuo.C
open Go.RowKit Go.Deep

def sites0 : Array Value := #[.pointer none, .string ⟨#[]⟩, .bool false, .bool false, .int .u8 0, .nilFunc, .nilFunc, .nilFunc, .nilFunc, .int .i64 0, .int .i64 0, .int .i64 0, .int .i64 0, .int .i64 0, .slice none 0 0, .int .i64 0, .slice none 0 0, .int .i64 0, .slice none 0 0, .int .i64 0, .slice none 0 0, .int .i64 0, .nilIface, .nilIface, .slice none 0 0, .nilFunc, .slice none 0 0, .slice none 0 0, .slice none 0 0, .slice none 0 0, .int .i64 0, .slice none 0 0, .int .i64 0, .map none, .slice none 0 0, .slice none 0 0, .bool false, .slice none 0 0, .slice none 0 0, .slice none 0 0, .slice none 0 0, .int .i64 0, .int .i64 0, .slice none 0 0, .map none, .map none, .bool false, .slice none 0 0, .nilFunc, .map none, .slice none 0 0, .pointer none, .slice none 0 0, .int .i64 0, .int .i64 0, .int .i64 0, .int .i64 0, .int .i64 0, .int .i64 0, .int .i64 0, .int .i64 0, .int .i64 0, .int .i64 0, .int .i64 0, .int .i64 0]
def bld165 (X : Array (Nat × Value)) : Sem Value := Instr.build 165 X
theorem to165 (X : Array (Nat × Value)) : Instr.build 165 X = bld165 X := rfl
theorem bd165 (w : World) : (bld165 #[]).run Yba.prog w = .ok (.agg sites0) w := run_build w 165 #[] sites0 (by kernel_rfl)

theorem cell_of_block {w : World} {b : Nat} {c : Array Value} {t : TypeId} {v : Value} {o : Nat} (h : w.heap[b]? = some (.cells c t (0, 0))) (hv : c[o]? = some v) : w.cell? ⟨b, o, none⟩ = some v := by
  simp [World.cell?, h, hv]
theorem frozen_of_block {w : World} {b : Nat} {c : Array Value} {t : TypeId} {o : Nat} (h : w.heap[b]? = some (.cells c t (0, 0))) : w.frozen? ⟨b, o, none⟩ = false := by
  simp [World.frozen?, h]

theorem known_of_stage3 {w w3 : World} {N1 N2 N3 B M kk : Nat} {S : Nat → Int} {Bv : Nat → Value} {L : Nat → List Nat} (h : Stage3 w w3 N1 N2 N3 B M kk S Bv L) (hk : kk ≤ 65536) :
    Known w3 M (B + 3 * M) (fun i => B + 3 * i) (fun i => B + 3 * i + 1) S Bv L := by
  refine ⟨fun i hi => cell_of_block (h.lvs i hi) rfl, fun i hi => cell_of_block (h.lvs i hi) rfl, fun i hi => ?_, fun i hi => h.own i hi, h.llt, fun i hi => ?_, fun i hi => ?_⟩
  · rw [(h.txs i hi).cell (by omega)]
    simp
  · have := h.len i hi
    omega
  · obtain ⟨c, hb, _⟩ := h.txs i hi
    exact ⟨c, 33, hb⟩

theorem tables_of_stage3 {w w3 : World} {N1 N2 N3 B M kk : Nat} {S : Nat → Int} {Bv : Nat → Value} {L : Nat → List Nat} (h : Stage3 w w3 N1 N2 N3 B M kk S Bv L) :
    Tables w3 M N3 w.heap.size (fun i => B + 3 * i + 1 + 1) (fun i j => decide (j ∈ L i)) S :=
  ⟨fun _ hi => h.st.cell hi, fun _ hi => h.aj.cell hi, fun i _ hi hj => (h.ads i hi).cell hj⟩

theorem Tables.keep {w w' : World} {m AdjB StB : Nat} {Ad : Nat → Nat} {A : Nat → Nat → Bool} {S : Nat → Int} (h : Tables w m AdjB StB Ad A S) (hb : Below w.heap.size w w') : Tables w' m AdjB StB Ad A S :=
  ⟨fun i hi => cell_keep hb (h.st i hi), fun i hi => cell_keep hb (h.adj i hi), fun i j hi hj => cell_keep hb (h.row i j hi hj)⟩

/-- The cycle's cells. -/
theorem cyc_cells {w3 w4 : World} {I C B M n : Nat} {z : Nat → Int} (h : Stage4 w3 w4 I C B M n n z) : ∀ j, j < n →
    w4.cell? ⟨C, j * 3, none⟩ = some (.pointer (some ⟨B + 3 * ixOf z M j + 1, 0, none⟩)) ∧ w4.cell? ⟨C, j * 3 + 1, none⟩ = some (.int .i64 0) ∧ w4.cell? ⟨C, j * 3 + 2, none⟩ = some (.int .i64 0) := by
  intro j hj
  refine ⟨?_, ?_, ?_⟩
  · rw [h.cy.cell (by omega)]
    simp [cyc, hj, P]
  · rw [h.cy.cell (by omega)]
    have : (j * 3 + 1) % 3 = 1 := by omega
    simp [cyc, this]
  · rw [h.cy.cell (by omega)]
    have : (j * 3 + 2) % 3 = 2 := by omega
    simp [cyc, this]

theorem ixOf_lt {z : Nat → Int} {M j : Nat} (hM : 0 < M) : ixOf z M j < M := by
  have h1 := Int.emod_nonneg (z j) (show (M : Int) ≠ 0 by omega)
  have h2 := Int.emod_lt_of_pos (z j) (show (0 : Int) < M by omega)
  unfold ixOf
  omega

end Go.Proofs.Ybulkecuo.C
