import Derived.Test.YbulkecxuCNode
namespace Go.Proofs.Ybulkecxu.C
set_option linter.unusedVariables false
set_option linter.unusedSimpArgs false
open Go.RowKit Go.Deep

theorem want_mem {F S : Nat → List Value} {len m : Nat} (hF : ∀ i, i < len → Mem (F i)) (hS : ∀ i, i < m → Mem (S i)) : ∀ i, i < 160 + m → Mem (want F S len i) := fun i hi => by
  unfold want
  by_cases h1 : i < 160
  · rw [if_pos h1]
    by_cases h2 : i < len
    · rw [if_pos h2]; exact hF i h2
    · rw [if_neg h2]; exact zeroM_mem
  · rw [if_neg h1]; exact hS _ (by omega)

theorem range_flat {w : World} {b o : Nat} {A : Nat → List Value} {n : Nat} (hm : ∀ i, i < n → Mem (A i)) (h : ∀ i, i < n → w.rangeAt b (o + i * 21) (A i)) : w.rangeAt b o (flat A n) := fun j v hv => by
  have hlt : j < n * 21 := by rw [← flat_len n hm]; exact (List.getElem?_eq_some_iff.1 hv).1
  have hd : j / 21 < n := by omega
  have hmod : j % 21 < 21 := by omega
  have e1 : j / 21 * 21 + j % 21 = j := by omega
  have := h (j / 21) hd (j % 21) v (by rw [← flat_get n hm (j / 21) hd (j % 21) hmod, e1]; exact hv)
  rw [Nat.add_assoc, e1] at this
  exact this

theorem flat_range {w : World} {b o : Nat} {A : Nat → List Value} {n : Nat} (hm : ∀ i, i < n → Mem (A i)) (h : w.rangeAt b o (flat A n)) : ∀ i, i < n → w.rangeAt b (o + i * 21) (A i) := fun i hi j v hv => by
  have hj : j < 21 := by have := (List.getElem?_eq_some_iff.1 hv).1; rw [(hm i hi).len] at this; exact this
  have := h (i * 21 + j) v (by rw [flat_get n hm i hi j hj]; exact hv)
  rw [← Nat.add_assoc] at this
  exact this

/-- The node with all its fingers, and the copy of them. -/
structure Laid (W w3 : World) (n : Nat) (A : Nat → List Value) : Prop where
  below : Below n W w3
  size : w3.heap.size = n + 2
  fin : w3.rangeAt n 24 (flat A 160)
  copy : w3.rangeAt (n + 1) 0 (flat A 160)

theorem fing_want {W wr : World} {n : Nat} {F S : Nat → List Value} {len k : Nat} (h : Fing W wr n F k) (h1 : k ≤ 160) (h2 : k ≤ len) (h3 : k = 160 ∨ k = len) (hF : ∀ i, i < len → Mem (F i)) : wr.rangeAt n 24 (flat (want F S len) 160) := by
  refine range_flat (fun i hi => ?_) (fun i hi => ?_)
  · unfold want
    rw [if_pos hi]
    by_cases hl : i < len
    · rw [if_pos hl]; exact hF i hl
    · rw [if_neg hl]; exact zeroM_mem
  · have := h.fin i hi
    have e : (if i < k then F i else zeroM) = want F S len i := by
      unfold want
      rw [if_pos hi]
      by_cases hl : i < len
      · rw [if_pos hl, if_pos (by omega)]
      · rw [if_neg hl, if_neg (by omega)]
    rw [e] at this
    exact this

theorem laid_of {W wr : World} {n : Nat} {F : Nat → List Value} {k : Nat} (h : Fing W wr n F k) {A : Nat → List Value} (hA : ∀ i, i < 160 → Mem (A i)) (hr : wr.rangeAt n 24 (flat A 160)) :
    ∃ w3 u, (st37 (.pointer (some ⟨n + 1, 0, none⟩)) (.agg (flat A 160).toArray)).run Yba.prog (wr.alloc (.cells (fin0F Yba.prog) 37)) = .ok () w3 ∧ w3.cell? ⟨n, 3384, none⟩ = some u ∧ w3.frozen? ⟨n, 3384, none⟩ = false ∧ Laid W w3 n A := by
  have hs := h.size
  have hb := blk_alloc_new wr (.cells (fin0F Yba.prog) 37)
  rw [hs] at hb
  have ht : (wr.alloc (.cells (fin0F Yba.prog) 37)).there (n + 1) 0 3360 := fun j hj => by
    refine ⟨?_, by simp only [World.frozen?, hb]; simp⟩
    simp only [World.cell?, hb]
    rw [Array.getElem?_eq_getElem (by rw [fin0_size]; omega)]
    rfl
  have hu := World.there_alloc h.there (.cells (fin0F Yba.prog) 37) 3360 (by omega)
  have hu2 := World.isSome_setCells (n + 1) (flat A 160) 0 _ _ hu.1
  obtain ⟨u, hu3⟩ := Option.isSome_iff_exists.1 hu2
  refine ⟨(wr.alloc (.cells (fin0F Yba.prog) 37)).setCells (n + 1) 0 (flat A 160), u, store_fin _ _ _ A hA ht, hu3, by rw [World.frozen?_setCells]; exact hu.2, ⟨?_, ?_, ?_, ?_⟩⟩
  · exact below_setCells (h.below.alloc (by omega) _) (by omega) _ _
  · rw [nblk_setCells, nblk_alloc]; omega
  · exact World.rangeAt_setCells_apart (World.rangeAt_alloc hr _) _ _ _ (.inl (by omega))
  · exact World.rangeAt_setCells_same _ _ _ _ (by rw [flat_len 160 hA]; exact ht)

/-- The world before the sequence begins. -/
def before (w3 : World) (n : Nat) (sl : Value) (lim : Int) : World :=
  ((((w3.setCell ⟨n, 3384, none⟩ sl).alloc (.cells #[.slice none 0 0] 22)).alloc (.cells #[.int .i64 0] 3)).alloc (.cells #[.int .i64 lim] 3)).alloc (.cells #[.pointer (some ⟨n, 0, none⟩)] 29)

theorem begun_of {W w3 : World} {n : Nat} {A : Nat → List Value} (h : Laid W w3 n A) (u : Value) (hu : w3.cell? ⟨n, 3384, none⟩ = some u) (lim : Int) (a : Option Addr) (len c : Nat) (hA : ∀ i, i < 160 → Mem (A i)) (hrow : Came W a len (fun j => A (160 + j))) (hlow : ∀ x, a = some x → 0 < len → x.block < n) :
    Begun (before w3 n (.slice a len c) lim) (n + 2) lim n a len c A ∧ Below n W (before w3 n (.slice a len c) lim) ∧ (before w3 n (.slice a len c) lim).rangeAt n 24 (flat A 160) ∧ (before w3 n (.slice a len c) lim).rangeAt (n + 1) 0 (flat A 160) := by
  have hs := h.size
  have s4 : (w3.setCell ⟨n, 3384, none⟩ (.slice a len c)).heap.size = n + 2 := by rw [nblk_setCell]; exact hs
  have hcell : (w3.setCell ⟨n, 3384, none⟩ (.slice a len c)).cell? ⟨n, 3384, none⟩ = some (.slice a len c) := World.cell?_setCell_same _ _ _ hu
  have hfin : (w3.setCell ⟨n, 3384, none⟩ (.slice a len c)).rangeAt n 24 (flat A 160) := fun j v hv => by
    have hl := (List.getElem?_eq_some_iff.1 hv).1
    rw [flat_len 160 hA] at hl
    rw [World.cell?_setCell_other _ _ _ _ (fun e => by injection e; omega)]
    exact h.fin j v hv
  have hcopy : (w3.setCell ⟨n, 3384, none⟩ (.slice a len c)).rangeAt (n + 1) 0 (flat A 160) := fun j v hv => by
    rw [World.cell?_setCell_other _ _ _ _ (fun e => by injection e; omega)]
    exact h.copy j v hv
  have hB4 : Below n W (w3.setCell ⟨n, 3384, none⟩ (.slice a len c)) := h.below.setCell (by simp) _
  unfold before
  generalize hW : w3.setCell ⟨n, 3384, none⟩ (.slice a len c) = W4 at *
  have b0 := blk_alloc_new W4 (.cells #[.slice none 0 0] 22)
  have b1 := blk_alloc_new (W4.alloc (.cells #[.slice none 0 0] 22)) (.cells #[.int .i64 0] 3)
  have b2 := blk_alloc_new ((W4.alloc (.cells #[.slice none 0 0] 22)).alloc (.cells #[.int .i64 0] 3)) (.cells #[.int .i64 lim] 3)
  have b3 := blk_alloc_new (((W4.alloc (.cells #[.slice none 0 0] 22)).alloc (.cells #[.int .i64 0] 3)).alloc (.cells #[.int .i64 lim] 3)) (.cells #[.pointer (some ⟨n, 0, none⟩)] 29)
  simp only [nblk_alloc, s4] at b0 b1 b2 b3
  have hBB : Below (n + 2) W4 ((((W4.alloc (.cells #[.slice none 0 0] 22)).alloc (.cells #[.int .i64 0] 3)).alloc (.cells #[.int .i64 lim] 3)).alloc (.cells #[.pointer (some ⟨n, 0, none⟩)] 29)) :=
    ((((Below.refl _ _).alloc (by omega) _).alloc (by simp only [nblk_alloc]; omega) _).alloc (by simp only [nblk_alloc]; omega) _).alloc (by simp only [nblk_alloc]; omega) _
  have hfin6 : World.rangeAt ((((W4.alloc (.cells #[.slice none 0 0] 22)).alloc (.cells #[.int .i64 0] 3)).alloc (.cells #[.int .i64 lim] 3)).alloc (.cells #[.pointer (some ⟨n, 0, none⟩)] 29)) n 24 (flat A 160) := fun j v hv => cell_keep hBB (by omega) (hfin j v hv)
  have hcopy6 : World.rangeAt ((((W4.alloc (.cells #[.slice none 0 0] 22)).alloc (.cells #[.int .i64 0] 3)).alloc (.cells #[.int .i64 lim] 3)).alloc (.cells #[.pointer (some ⟨n, 0, none⟩)] 29)) (n + 1) 0 (flat A 160) := fun j v hv => cell_keep hBB (by omega) (hcopy j v hv)
  have hBW : Below n W ((((W4.alloc (.cells #[.slice none 0 0] 22)).alloc (.cells #[.int .i64 0] 3)).alloc (.cells #[.int .i64 lim] 3)).alloc (.cells #[.pointer (some ⟨n, 0, none⟩)] 29)) := hB4.trans (hBB.mono (by omega))
  refine ⟨⟨by simp only [nblk_alloc]; omega, ?_, ?_, ?_, ?_, ?_, ?_, ?_, by omega, fun x hx hl => by have := hlow x hx hl; omega⟩, hBW, hfin6, hcopy6⟩
  · rw [blk_alloc_lt _ _ _ (by simp only [nblk_alloc]; omega), blk_alloc_lt _ _ _ (by simp only [nblk_alloc]; omega), blk_alloc_lt _ _ _ (by simp only [nblk_alloc]; omega)]; exact b0
  · rw [blk_alloc_lt _ _ _ (by simp only [nblk_alloc]; omega), blk_alloc_lt _ _ _ (by simp only [nblk_alloc]; omega)]; exact b1
  · rw [blk_alloc_lt _ _ _ (by simp only [nblk_alloc]; omega)]; exact b2
  · exact b3
  · exact cell_keep hBB (by omega) hcell
  · exact fun i hi => ⟨hA i hi, n, 24, rfl, flat_range hA hfin6⟩
  · exact came_keep hBW hlow hrow

end Go.Proofs.Ybulkecxu.C
