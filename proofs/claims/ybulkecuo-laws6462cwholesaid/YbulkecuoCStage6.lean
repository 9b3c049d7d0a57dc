import Derived.Test.YbulkecuoCStage5
namespace Go.Proofs.Ybulkecuo.C
open Go.RowKit Go.Deep

theorem info125 : ∃ j, Yba.prog.info? 125 = some j := by
  have h : (Yba.prog.info? 125).map (·.size) = some 53 := by kernel_rfl
  obtain ⟨i, hi, _⟩ := Option.map_eq_some_iff.1 h
  exact ⟨i, hi⟩

theorem neq_same93 (a : Addr) (w : World) : (binOp .neq 93 (.pointer (some a)) (.pointer (some a))).run Yba.prog w = .ok (.bool false) w := by
  obtain ⟨j, hj⟩ := info125
  have h : ∀ d : Nat, (Op.equalIn (d + 1) 93 (.pointer (some a)) (.pointer (some a))).run Yba.prog w = .ok true w := fun d => by
    simp [Op.equalIn, run_underlying Yba.underlying93, sizeOf, typeInfo, hj, run_sameAddr_same]
  simp only [binOp]
  simp [Op.equal, Op.maxDepth, h 9999]

theorem neq_same47 (a : Addr) (w : World) : (binOp .neq 47 (.pointer (some a)) (.pointer (some a))).run Yba.prog w = .ok (.bool false) w := by
  obtain ⟨j, hj, _⟩ := info33
  have h : ∀ d : Nat, (Op.equalIn (d + 1) 47 (.pointer (some a)) (.pointer (some a))).run Yba.prog w = .ok true w := fun d => by
    simp [Op.equalIn, run_underlying Yba.underlying47, sizeOf, typeInfo, hj, run_sameAddr_same]
  simp only [binOp]
  simp [Op.equal, Op.maxDepth, h 9999]

/-- What the law's end reads: the victim, the counts, the wanted counts; all else lies below, as it was in w4. -/
structure Stage6 (w4 W : World) (X V Sb Wt : Nat) (vs ex wx : Int) (ch : Bool) : Prop where
  old : Below w4.heap.size w4 W
  v1 : W.cell? ⟨V, 1, none⟩ = some (.pointer (some ⟨X, 0, none⟩))
  v4 : W.cell? ⟨V, 4, none⟩ = some (.int .u8 vs)
  x7 : W.cell? ⟨X, 7, none⟩ = some (.bool ch)
  sb : ∀ o, 54 ≤ o → o < 65 → o ≠ 57 → W.cell? ⟨Sb, o, none⟩ = some (.int .i64 0)
  sb57 : W.cell? ⟨Sb, 57, none⟩ = some (.int .i64 ex)
  f57 : W.frozen? ⟨Sb, 57, none⟩ = false
  wt : ∀ o, o < 11 → o ≠ 3 → W.cell? ⟨Wt, o, none⟩ = some (.int .i64 0)
  wt3 : W.cell? ⟨Wt, 3, none⟩ = some (.int .i64 wx)
  fw3 : W.frozen? ⟨Wt, 3, none⟩ = false

/-- The world behind 's := &sites{}'. -/
theorem st5 (w4 W5 : World) (ch : Bool) (vs : Int) (tv : Array Value) (ht : tv[7]? = some (.bool ch))
    (hW : W5 = ((w4.alloc (.cells tv 33)).alloc (.cells (life0 w4.heap.size vs) 125)).alloc (.cells sites0 165)) :
    Below w4.heap.size w4 W5 ∧ W5.heap.size = w4.heap.size + 1 + 1 + 1 ∧ W5.cell? ⟨w4.heap.size, 7, none⟩ = some (.bool ch) ∧ W5.cell? ⟨w4.heap.size + 1, 1, none⟩ = some (.pointer (some ⟨w4.heap.size, 0, none⟩)) ∧
    W5.cell? ⟨w4.heap.size + 1, 4, none⟩ = some (.int .u8 vs) ∧ W5.heap[w4.heap.size + 1 + 1]? = some (.cells sites0 165 (0, 0)) := by
  subst hW
  refine ⟨?_, ?_, ?_, ?_, ?_, ?_⟩
  · exact Below.alloc (Below.alloc (Below.alloc (Below.refl _ _) (Nat.le_refl _) _) (by rw [nblk_alloc]; omega) _) (by rw [nblk_alloc, nblk_alloc]; omega) _
  · rw [nblk_alloc, nblk_alloc, nblk_alloc]
  · refine cell_of_block (c := tv) (t := 33) ?_ ht
    rw [blk_alloc_lt _ _ _ (by rw [nblk_alloc, nblk_alloc]; omega), blk_alloc_lt _ _ _ (by rw [nblk_alloc]; omega)]
    exact blk_alloc_new _ _
  · refine cell_of_block (c := life0 w4.heap.size vs) (t := 125) ?_ rfl
    rw [blk_alloc_lt _ _ _ (by rw [nblk_alloc, nblk_alloc]; omega)]
    have := blk_alloc_new (w4.alloc (.cells tv 33)) (.cells (life0 w4.heap.size vs) 125)
    rw [nblk_alloc] at this
    exact this
  · refine cell_of_block (c := life0 w4.heap.size vs) (t := 125) ?_ rfl
    rw [blk_alloc_lt _ _ _ (by rw [nblk_alloc, nblk_alloc]; omega)]
    have := blk_alloc_new (w4.alloc (.cells tv 33)) (.cells (life0 w4.heap.size vs) 125)
    rw [nblk_alloc] at this
    exact this
  · have := blk_alloc_new ((w4.alloc (.cells tv 33)).alloc (.cells (life0 w4.heap.size vs) 125)) (.cells sites0 165)
    rw [nblk_alloc, nblk_alloc] at this
    exact this

/-- .. and behind 'want := s.siteCounts'. -/
theorem st6 {w4 W5 : World} {X V Sb Wt : Nat} {ch : Bool} {vs ex : Int} (hX : w4.heap.size ≤ X) (L1 : X < V) (L2 : V < Sb) (L3 : Sb < Wt) (h0 : Below w4.heap.size w4 W5) (hz : W5.heap.size = Wt) (x7 : W5.cell? ⟨X, 7, none⟩ = some (.bool ch)) (v1 : W5.cell? ⟨V, 1, none⟩ = some (.pointer (some ⟨X, 0, none⟩)))
    (v4 : W5.cell? ⟨V, 4, none⟩ = some (.int .u8 vs)) (hb : W5.heap[Sb]? = some (.cells sites0 165 (0, 0))) :
    Stage6 w4 ((W5.setCell ⟨Sb, 57, none⟩ (.int .i64 ex)).alloc (.cells #[.int .i64 0, .int .i64 0, .int .i64 0, .int .i64 ex, .int .i64 0, .int .i64 0, .int .i64 0, .int .i64 0, .int .i64 0, .int .i64 0, .int .i64 0] 163)) X V Sb Wt vs ex ex ch := by
  have hs : (W5.setCell ⟨Sb, 57, none⟩ (.int .i64 ex)).heap.size = Wt := by rw [nblk_setCell]; exact hz
  have old : ∀ b o, b < Wt → ((W5.setCell ⟨Sb, 57, none⟩ (.int .i64 ex)).alloc (.cells #[.int .i64 0, .int .i64 0, .int .i64 0, .int .i64 ex, .int .i64 0, .int .i64 0, .int .i64 0, .int .i64 0, .int .i64 0, .int .i64 0, .int .i64 0] 163)).cell? ⟨b, o, none⟩ = (W5.setCell ⟨Sb, 57, none⟩ (.int .i64 ex)).cell? ⟨b, o, none⟩ := fun b o h => by
    refine World.cell?_of_block (w := W5.setCell ⟨Sb, 57, none⟩ (.int .i64 ex)) ?_
    exact blk_alloc_lt _ _ _ (by rw [hs]; exact h)
  have other : ∀ b o, b < Wt → (b ≠ Sb ∨ o ≠ 57) → (W5.setCell ⟨Sb, 57, none⟩ (.int .i64 ex)).cell? ⟨b, o, none⟩ = W5.cell? ⟨b, o, none⟩ := fun b o _ h => by
    refine World.cell?_setCell_other _ _ _ _ (fun e => ?_)
    injection e with e1 e2
    rcases h with h | h
    · exact h e1.symm
    · exact h e2.symm
  have hnew := blk_alloc_new (W5.setCell ⟨Sb, 57, none⟩ (.int .i64 ex)) (.cells #[.int .i64 0, .int .i64 0, .int .i64 0, .int .i64 ex, .int .i64 0, .int .i64 0, .int .i64 0, .int .i64 0, .int .i64 0, .int .i64 0, .int .i64 0] 163)
  rw [hs] at hnew
  refine ⟨?_, ?_, ?_, ?_, ?_, ?_, ?_, ?_, cell_of_block hnew rfl, frozen_of_block hnew⟩
  · exact Below.alloc (Below.setCell h0 (by simp; omega) _) (by rw [nblk_setCell]; have := h0.size; omega) _
  · rw [old _ _ (by omega), other _ _ (by omega) (.inl (by omega))]; exact v1
  · rw [old _ _ (by omega), other _ _ (by omega) (.inl (by omega))]; exact v4
  · rw [old _ _ (by omega), other _ _ (by omega) (.inl (by omega))]; exact x7
  · intro o h1 h2 h3
    rw [old _ _ (by omega), other _ _ (by omega) (.inr h3)]
    refine cell_of_block hb ?_
    have : o = 54 ∨ o = 55 ∨ o = 56 ∨ o = 58 ∨ o = 59 ∨ o = 60 ∨ o = 61 ∨ o = 62 ∨ o = 63 ∨ o = 64 := by omega
    rcases this with rfl | rfl | rfl | rfl | rfl | rfl | rfl | rfl | rfl | rfl <;> rfl
  · rw [old _ _ (by omega)]
    exact World.cell?_setCell_same _ _ _ (cell_of_block hb (rfl : sites0[57]? = some (.int .i64 0)))
  · rw [World.frozen?_of_block (w := W5.setCell ⟨Sb, 57, none⟩ (.int .i64 ex)) (a := ⟨Sb, 57, none⟩) (blk_alloc_lt _ _ _ (by rw [hs]; exact L3)), World.frozen?_setCell]
    exact frozen_of_block hb
  · intro o h1 h2
    refine cell_of_block hnew ?_
    have : o = 0 ∨ o = 1 ∨ o = 2 ∨ o = 4 ∨ o = 5 ∨ o = 6 ∨ o = 7 ∨ o = 8 ∨ o = 9 ∨ o = 10 := by omega
    rcases this with rfl | rfl | rfl | rfl | rfl | rfl | rfl | rfl | rfl | rfl <;> rfl

theorem Stage6.want {w4 W : World} {X V Sb Wt : Nat} {ch : Bool} {vs ex wx : Int} (h : Stage6 w4 W X V Sb Wt vs ex wx ch) (hX : w4.heap.size ≤ X) (L1 : X < V) (L2 : V < Sb) (L3 : Sb < Wt) (y : Int) :
    Stage6 w4 (W.setCell ⟨Wt, 3, none⟩ (.int .i64 y)) X V Sb Wt vs ex y ch := by
  have other : ∀ b o, (b ≠ Wt ∨ o ≠ 3) → (W.setCell ⟨Wt, 3, none⟩ (.int .i64 y)).cell? ⟨b, o, none⟩ = W.cell? ⟨b, o, none⟩ := fun b o h => by
    refine World.cell?_setCell_other _ _ _ _ (fun e => ?_)
    injection e with e1 e2
    rcases h with h | h
    · exact h e1.symm
    · exact h e2.symm
  refine ⟨Below.setCell h.old (by simp; omega) _, ?_, ?_, ?_, ?_, ?_, ?_, ?_, World.cell?_setCell_same _ _ _ h.wt3, ?_⟩
  · rw [other _ _ (.inl (by omega))]; exact h.v1
  · rw [other _ _ (.inl (by omega))]; exact h.v4
  · rw [other _ _ (.inl (by omega))]; exact h.x7
  · intro o h1 h2 h3; rw [other _ _ (.inl (by omega))]; exact h.sb o h1 h2 h3
  · rw [other _ _ (.inl (by omega))]; exact h.sb57
  · rw [World.frozen?_setCell]; exact h.f57
  · intro o h1 h2; rw [other _ _ (.inr h2)]; exact h.wt o h1 h2
  · rw [World.frozen?_setCell]; exact h.fw3

theorem Stage6.watch {w4 W W' : World} {X V Sb Wt : Nat} {ch : Bool} {vs ex wx y : Int} (h : Stage6 w4 W X V Sb Wt vs ex wx ch) (hX : w4.heap.size ≤ X) (L1 : X < V) (L2 : V < Sb) (L3 : Sb < Wt) (hk : Kept Sb W W') (h57 : W'.cell? ⟨Sb, 57, none⟩ = some (.int .i64 y)) :
    Stage6 w4 W' X V Sb Wt vs y wx ch := by
  have other : ∀ b o v, b ≠ Sb → W.cell? ⟨b, o, none⟩ = some v → W'.cell? ⟨b, o, none⟩ = some v := fun b o v hb h => by
    rw [World.cell?_of_block (w := W) (a := ⟨b, o, none⟩) (hk.block b (lt_of_cell h) hb)]
    exact h
  refine ⟨?_, other _ _ _ (by omega) h.v1, other _ _ _ (by omega) h.v4, other _ _ _ (by omega) h.x7, ?_, h57, (hk.frz 57).trans h.f57, fun o h1 h2 => other _ _ _ (by omega) (h.wt o h1 h2), other _ _ _ (by omega) h.wt3, ?_⟩
  · exact h.old.trans ⟨hk.os, hk.tape, hk.output, hk.size, fun k hkk => hk.block k (by have := h.old.size; omega) (by omega)⟩
  · intro o h1 h2 h3
    rw [hk.cells o h3]
    exact h.sb o h1 h2 h3
  · rw [World.frozen?_of_block (w := W) (a := ⟨Wt, 3, none⟩) (hk.block Wt (lt_of_cell h.wt3) (by omega))]
    exact h.fw3

end Go.Proofs.Ybulkecuo.C
