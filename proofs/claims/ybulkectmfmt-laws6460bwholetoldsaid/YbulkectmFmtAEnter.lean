import Derived.Test.YbulkectmFmtAPref2
import Derived.Test.YbulkectmFmtADfs
namespace Go.Proofs.YbulkectmFmt.A
set_option linter.unusedVariables false
set_option linter.unusedSimpArgs false
open Go.RowKit Go.Deep

theorem fir_ranked {D : GD} (hD : D.Ok) (seed : Nat → Bool) : ∀ x y, 0 ≤ (fin D seed).rank x → (fin D seed).rank x = (fin D seed).rank y → x = y := by
  intro x y h0 he
  have hI := FInv.st hD seed D.n
  have hx := (hI.rk x).1 h0
  have hy := (hI.rk y).1 (by show 0 ≤ (fin D seed).rank y; omega)
  obtain ⟨i, hi, hix⟩ := List.getElem_of_mem hx
  obtain ⟨j, hj, hjy⟩ := List.getElem_of_mem hy
  have h1 := hI.ix i x (by rw [List.getElem?_eq_getElem hi, hix])
  have h2 := hI.ix j y (by rw [List.getElem?_eq_getElem hj, hjy])
  have he' : (st D seed D.n).rank x = (st D seed D.n).rank y := he
  have : i = j := by omega
  subst this
  rw [← hix, hjy]

set_option maxRecDepth 100000 in
set_option maxHeartbeats 4000000 in
/-- enter: 'entered[v] = true; return step{node: v, edges: g.preferred(f, v, may)}'. -/
theorem enter_any (w0 wr : World) (hB : Below w0.heap.size w0 wr) (M : GM) (D : GD) (hD : D.Ok) (hG : Gr w0 M D) (fp SD RK : Nat) (seed : Nat → Bool) (rank : Nat → Int) (hF : Fir w0 fp SD RK D.n seed rank) (hinj : ∀ x y, 0 ≤ rank x → rank x = rank y → x = y) (RB : Nat) (R : Nat → Bool) (hR : ∀ i, i < D.n → w0.cell? ⟨RB, i, none⟩ = some (.bool (R i)))
    (eV EB gB fB mB : Nat) (hlo : w0.heap.size ≤ EB) (h1 : wr.cell? ⟨eV, 0, none⟩ = some (.slice (some ⟨EB, 0, none⟩) D.n D.n)) (h2 : wr.cell? ⟨gB, 0, none⟩ = some (.pointer (some ⟨M.gp, 0, none⟩))) (h3 : wr.cell? ⟨fB, 0, none⟩ = some (.pointer (some ⟨fp, 0, none⟩))) (h4 : wr.cell? ⟨mB, 0, none⟩ = some (.slice (some ⟨RB, 0, none⟩) D.n D.n))
    (hg : gB ≠ EB) (hf : fB ≠ EB) (hm : mB ≠ EB) (E : Nat → Bool) (he : wr.rowIs EB 4 D.n (fun i => .bool (E i))) (x : Nat) (hx : x < D.n) :
    Calls Ybaf.prog 19 #[.int .i64 (x : Int), .pointer (some ⟨eV, 0, none⟩), .pointer (some ⟨gB, 0, none⟩), .pointer (some ⟨fB, 0, none⟩), .pointer (some ⟨mB, 0, none⟩)] wr fun e w' => ∃ u, e = .returned (.agg #[.int .i64 (x : Int), u, .int .i64 0]) ∧ Below wr.heap.size (wr.setCell ⟨EB, x, none⟩ (.bool true)) w' ∧ Row w' u (prefL D seed rank R x).length (ints (prefL D seed rank R x)) ∧ ∀ y k c, u = .slice (some y) k c → wr.heap.size ≤ y.block := by
  have hel := he.lt
  have c5 := he.cell hx
  have f5 := he.frozen x
  obtain ⟨W1, hW1⟩ : ∃ W1, W1 = (wr.setCell ⟨EB, x, none⟩ (.bool true)).alloc (.cells #[.int .i64 0, .slice none 0 0, .int .i64 0] 78) := ⟨_, rfl⟩
  have hs1 : W1.heap.size = wr.heap.size + 1 := by rw [hW1, nblk_alloc, nblk_setCell]
  have hB1 : Below w0.heap.size w0 W1 := by
    rw [hW1]
    exact (hB.setCell (by simpa using hlo) _).alloc (by rw [nblk_setCell]; exact hB.size) _
  have d2 : W1.cell? ⟨gB, 0, none⟩ = some (.pointer (some ⟨M.gp, 0, none⟩)) := by
    rw [hW1, World.cell?_alloc_lt _ _ _ (by rw [nblk_setCell]; exact lt_of_cell h2), World.cell?_setCell_other _ _ _ _ (fun e => by injection e with e1; exact hg e1.symm)]
    exact h2
  have d3 : W1.cell? ⟨fB, 0, none⟩ = some (.pointer (some ⟨fp, 0, none⟩)) := by
    rw [hW1, World.cell?_alloc_lt _ _ _ (by rw [nblk_setCell]; exact lt_of_cell h3), World.cell?_setCell_other _ _ _ _ (fun e => by injection e with e1; exact hf e1.symm)]
    exact h3
  have d4 : W1.cell? ⟨mB, 0, none⟩ = some (.slice (some ⟨RB, 0, none⟩) D.n D.n) := by
    rw [hW1, World.cell?_alloc_lt _ _ _ (by rw [nblk_setCell]; exact lt_of_cell h4), World.cell?_setCell_other _ _ _ _ (fun e => by injection e with e1; exact hm e1.symm)]
    exact h4
  have hb1 : W1.heap[wr.heap.size]? = some (.cells #[.int .i64 0, .slice none 0 0, .int .i64 0] 78 (0, 0)) := by
    have := blk_alloc_new (wr.setCell ⟨EB, x, none⟩ (.bool true)) (.cells #[.int .i64 0, .slice none 0 0, .int .i64 0] 78)
    rw [nblk_setCell, ← hW1] at this
    exact this
  have HPR := hid (preferred_any W1 M D hD (hG.keep hB1) fp SD RK seed rank (hF.keep hB1) hinj RB R (fun i hi => cell_old hB1 (hR i hi)) x hx)
  have HW1 := hid hW1
  have Hs1 := hid hs1
  have Hb1 := hid hb1
  have x0 : (0 : Int) ≤ (x : Int) := by omega
  have x1 : (x : Int) < (D.n : Int) := by omega
  have l1 := lt_of_cell h1
  have l2 := lt_of_cell h2
  have l3 := lt_of_cell h3
  have l4 := lt_of_cell h4
  obtain ⟨sz, hsz⟩ : ∃ sz, sz = wr.heap.size := ⟨_, rfl⟩
  have HSZ := hid hsz
  clear hsz
  clear hB1 hW1 hs1 hb1 hD hG hF hinj hR he hB
  go_enter Ybaf.func19, Ybaf.ntmps19
  go_wp2_with fail
  rw [← HW1.out]
  refine (HPR.out).mono ?_
  rintro e w2 ⟨u, rfl, hB2, hrow, hnew⟩
  have hb2 : w2.heap[wr.heap.size]? = some (.cells #[.int .i64 0, .slice none 0 0, .int .i64 0] 78 (0, 0)) := (hB2.block _ (by rw [Hs1.out]; omega)).trans Hb1.out
  have e0 : w2.cell? ⟨wr.heap.size, 0, none⟩ = some (.int .i64 0) := by simp [World.cell?, hb2]
  have e1 : w2.cell? ⟨wr.heap.size, 1, none⟩ = some (.slice none 0 0) := by simp [World.cell?, hb2]
  have e2 : w2.cell? ⟨wr.heap.size, 2, none⟩ = some (.int .i64 0) := by simp [World.cell?, hb2]
  have g0 : w2.frozen? ⟨wr.heap.size, 0, none⟩ = false := by simp [World.frozen?, hb2]
  have g1 : w2.frozen? ⟨wr.heap.size, 1, none⟩ = false := by simp [World.frozen?, hb2]
  have g2 : w2.frozen? ⟨wr.heap.size, 2, none⟩ = false := by simp [World.frozen?, hb2]
  obtain ⟨ua, uc, rfl, hr2⟩ := hrow
  have HB2 := hid hB2
  have HR2 := hid hr2
  have HN := hid hnew
  clear hB2 hr2 hnew HPR hb2 h1 h2 h3 h4 d2 d3 d4
  rw [← HSZ.out] at e0 e1 e2 g0 g1 g2 ⊢
  go_wp2
  have hfin : Below wr.heap.size (wr.setCell ⟨EB, x, none⟩ (.bool true)) w2 := by
    have h1 : Below wr.heap.size (wr.setCell ⟨EB, x, none⟩ (.bool true)) W1 := by rw [HW1.out]; exact (Below.refl _ _).alloc (by rw [nblk_setCell]; omega) _
    exact h1.trans (HB2.out.mono (by rw [Hs1.out]; omega))
  refine bodyPost_ret (v := .agg #[.int .i64 (x : Int), .slice ua (prefL D seed rank R x).length uc, .int .i64 0]) (by simp [results, Ybaf.results19, go_sem, e0, e1, e2]) rfl ⟨_, rfl, ?_, ?_, ?_⟩
  · rw [HSZ.out]
    exact ((hfin.setCell (by simp) _).setCell (by simp) _).setCell (by simp) _
  · refine ⟨ua, uc, rfl, fun i hi => ?_⟩
    obtain ⟨b, o, hab, hc⟩ := HR2.out i hi
    refine ⟨b, o, hab, fun j hj => ?_⟩
    have hbn : wr.heap.size + 1 ≤ b := by
      have := HN.out ⟨b, o, none⟩ _ _ (by rw [hab])
      rw [Hs1.out] at this
      exact this
    rw [World.cell?_setCell_other _ _ _ _ (fun e => by injection e with e1; have := HSZ.out; omega), World.cell?_setCell_other _ _ _ _ (fun e => by injection e with e1; have := HSZ.out; omega), World.cell?_setCell_other _ _ _ _ (fun e => by injection e with e1; have := HSZ.out; omega)]
    exact hc j hj
  · intro y k c h
    have := HN.out y k c h
    rw [Hs1.out] at this
    omega

end Go.Proofs.YbulkectmFmt.A
