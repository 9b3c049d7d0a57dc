import Derived.Test.YbulkecuoCStage
namespace Go.Proofs.Ybulkecuo.C
open Go.RowKit Go.Deep

theorem info132 : (Yba.prog.info? 132).map (fun i => (i.zero, i.size, i.bytes)) = some (some (.agg #[.pointer none, .int .i64 0, .int .i64 0]), 3, 24) := by kernel_rfl

theorem make132 (n : Nat) (hn : n ≤ 65536) (w : World) : (Instr.makeSlice 128 (.int .i64 (n : Int)) (.int .i64 (n : Int))).run Yba.prog w = .ok (.slice (some ⟨w.heap.size, 0, none⟩) n n) (w.alloc (.cells (madeCells #[.pointer none, .int .i64 0, .int .i64 0] (n * 3)) 132)) := by
  obtain ⟨i, hi, hz, hs, hb⟩ := info_parts info132
  have := run_make (P := Yba.prog) w 128 132 i _ Yba.underlying128 hi hz .i64 .i64 n n (by omega) (Int.le_refl _) (by rw [hb]; omega) (by omega)
  rw [hs] at this
  simpa [Value.cells] using this

/-- The index of the cycle's step j. -/
def ixOf (z : Nat → Int) (M j : Nat) : Nat := (z j % (M : Int)).toNat

/-- What cell q of the cycle holds, k steps being laid. -/
def cyc (z : Nat → Int) (B M k q : Nat) : Value := if q % 3 = 0 then (if q / 3 < k then P (B + 3 * ixOf z M (q / 3) + 1) else .pointer none) else .int .i64 0

structure Stage4 (wr w4 : World) (I C B M n k : Nat) (z : Nat → Int) : Prop where
  below : Below wr.heap.size wr w4
  ix : w4.rowIs I 3 n (fun j => .int .i64 (if j < k then (ixOf z M j : Int) else 0))
  cy : w4.rowIs C 132 (n * 3) (fun q => cyc z B M k q)

theorem st4_zero {wr : World} {I C B M n : Nat} {z : Nat → Int} (hI : I = wr.heap.size) (hC : C = I + 1) :
    Stage4 wr ((wr.alloc (.cells (madeCells #[.int .i64 0] n) 3)).alloc (.cells (madeCells #[.pointer none, .int .i64 0, .int .i64 0] (n * 3)) 132)) I C B M n 0 z := by
  refine ⟨?_, ?_, ?_⟩
  · exact Below.alloc (Below.alloc (Below.refl _ _) (Nat.le_refl _) _) (by rw [nblk_alloc]; omega) _
  · have := (World.rowIs_made wr (.int .i64 0) n 3).alloc (.cells (madeCells #[.pointer none, .int .i64 0, .int .i64 0] (n * 3)) 132)
    rw [← hI] at this
    exact this.congr fun j _ => by simp
  · refine ⟨madeCells #[.pointer none, .int .i64 0, .int .i64 0] (n * 3), ?_, size_madeCells _ _, fun q hq => ?_⟩
    · have := blk_alloc_new (wr.alloc (.cells (madeCells #[.int .i64 0] n) 3)) (.cells (madeCells #[.pointer none, .int .i64 0, .int .i64 0] (n * 3)) 132)
      rw [nblk_alloc, ← hI, ← hC] at this
      exact this
    · have h3 : q % 3 = 0 ∨ q % 3 = 1 ∨ q % 3 = 2 := by omega
      simp only [madeCells, cyc]
      rcases h3 with h | h | h <;> simp [h, hq]

theorem st4_step {w3 wr : World} {I C B M n k q : Nat} {z : Nat → Int} (h : Stage4 w3 wr I C B M n k z) (hI : w3.heap.size ≤ I) (L6 : I < C) (hq : q = ixOf z M k) :
    Stage4 w3 ((((wr.setCell ⟨I, k, none⟩ (.int .i64 (q : Int))).setCell ⟨C, k * 3, none⟩ (.pointer (some ⟨B + 3 * q + 1, 0, none⟩))).setCell ⟨C, k * 3 + 1, none⟩ (.int .i64 0)).setCell ⟨C, k * 3 + 2, none⟩ (.int .i64 0)) I C B M n (k + 1) z := by
  refine ⟨?_, ?_, ?_⟩
  · exact Below.setCell (Below.setCell (Below.setCell (Below.setCell h.below (by simp; omega) _) (by simp; omega) _) (by simp; omega) _) (by simp; omega) _
  · refine ((((h.ix.set k (.int .i64 (q : Int))).setOther (a := ⟨C, k * 3, none⟩) (by simp; omega) _).setOther (a := ⟨C, k * 3 + 1, none⟩) (by simp; omega) _).setOther (a := ⟨C, k * 3 + 2, none⟩) (by simp; omega) _).congr fun j _ => ?_
    by_cases e : j = k
    · subst e; simp [hq]
    · by_cases h1 : j < k
      · simp [e, h1, show j < k + 1 from by omega]
      · simp [e, h1, show ¬ j < k + 1 from by omega]
  · refine ((((h.cy.setOther (a := ⟨I, k, none⟩) (by simp; omega) _).set (k * 3) _).set (k * 3 + 1) _).set (k * 3 + 2) _).congr fun j _ => ?_
    by_cases e2 : j = k * 3 + 2
    · subst e2
      have : (k * 3 + 2) % 3 = 2 := by omega
      simp [cyc, this]
    · by_cases e1 : j = k * 3 + 1
      · subst e1
        have : (k * 3 + 1) % 3 = 1 := by omega
        simp [cyc, this]
      · by_cases e0 : j = k * 3
        · subst e0
          simp [cyc, hq, P]
        · simp only [if_neg e2, if_neg e1, if_neg e0, cyc]
          by_cases h0 : j % 3 = 0
          · rw [if_pos h0, if_pos h0]
            by_cases h1 : j / 3 < k
            · rw [if_pos h1, if_pos (by omega)]
            · rw [if_neg h1, if_neg (by omega)]
          · rw [if_neg h0, if_neg h0]

end Go.Proofs.Ybulkecuo.C
