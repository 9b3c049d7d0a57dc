import Derived.Test.YbulkectmFmtAPlain
import Derived.Deep.RegionHeld3
import Derived.Deep.RegionLaw
namespace Go.Proofs.YbulkectmFmt.A
set_option linter.unusedVariables false
set_option linter.unusedSimpArgs false
open Go.RowKit Go.Deep

def iv (l : List Nat) : List Value := l.map fun x : Nat => .int .i64 (x : Int)
theorem iv_append (l : List Nat) (x : Nat) : iv (l ++ [x]) = iv l ++ [.int .i64 (x : Int)] := by simp [iv]
theorem iv_len (l : List Nat) : (iv l).length = l.length := by simp [iv]
theorem iv_get {l : List Nat} {i : Nat} (h : i < l.length) : (iv l)[i]? = some (.int .i64 ((l[i] : Nat) : Int)) := by simp [iv, h]

/-- Where a propagation lies. -/
structure PC where
  s : Nat
  fv : Nat
  fp : Nat
  SD : Nat
  RK : Nat
  ov : Nat
  n : Nat

/-- A propagation in memory. -/
structure Fst (w wr : World) (C : PC) (seed : Nat → Bool) (rank : Nat → Int) (order : List Nat) (v : Value) : Prop where
  below : Below C.s w wr
  hfv : wr.heap[C.fv]? = some (.cells #[.pointer (some ⟨C.fp, 0, none⟩)] 66 (0, 0))
  hfp : wr.heap[C.fp]? = some (.cells #[.float .f64 4602678819172646912, .slice (some ⟨C.SD, 0, none⟩) C.n C.n, .slice (some ⟨C.RK, 0, none⟩) C.n C.n] 70 (0, 0))
  sd : wr.rowIs C.SD 4 C.n (fun i => .bool (seed i))
  rk : wr.rowIs C.RK 3 C.n (fun i => .int .i64 (rank i))
  hov : wr.heap[C.ov]? = some (.cells #[v] 27 (0, 0))
  own : wr.ownsRow (C.ov + 1) 3 1 v order.length (iv order)
  lo : C.s ≤ C.fv ∧ C.fv < C.ov ∧ C.s ≤ C.fp ∧ C.fp < C.ov ∧ C.s ≤ C.SD ∧ C.SD < C.ov ∧ C.s ≤ C.RK ∧ C.RK < C.ov

section
variable {w wr : World} {C : PC} {seed : Nat → Bool} {rank : Nat → Int} {order : List Nat} {v : Value}

theorem Fst.ovlt (h : Fst w wr C seed rank order v) : C.ov < wr.heap.size := (Array.getElem?_eq_some_iff.1 h.hov).1
theorem Fst.keep (h : Fst w wr C seed rank order v) {wx : World} (hb : Below wr.heap.size wr wx) : Fst w wx C seed rank order v := by
  have hov := h.ovlt
  obtain ⟨l1, l2, l3, l4, l5, l6, l7, l8⟩ := h.lo
  exact ⟨h.below.trans (hb.mono (by omega)), (hb.block _ (by omega)).trans h.hfv, (hb.block _ (by omega)).trans h.hfp, h.sd.of_block (hb.block _ (by omega)), h.rk.of_block (hb.block _ (by omega)), (hb.block _ (by omega)).trans h.hov, own_keep hb h.own, h.lo⟩

/-- 'f.rank[x] = y'. -/
theorem Fst.setRank (h : Fst w wr C seed rank order v) (x : Nat) (y : Int) : Fst w (wr.setCell ⟨C.RK, x, none⟩ (.int .i64 y)) C seed (upd rank x y) order v := by
  obtain ⟨l1, l2, l3, l4, l5, l6, l7, l8⟩ := h.lo
  have n1 : C.fv ≠ C.RK := fun e => by have h1 := h.hfv; obtain ⟨c, h2, _⟩ := h.rk; rw [e, h2] at h1; cases h1
  have n2 : C.fp ≠ C.RK := fun e => by have h1 := h.hfp; obtain ⟨c, h2, _⟩ := h.rk; rw [e, h2] at h1; cases h1
  have n3 : C.SD ≠ C.RK := fun e => by obtain ⟨c1, h1, _⟩ := h.sd; obtain ⟨c, h2, _⟩ := h.rk; rw [e, h2] at h1; cases h1
  refine ⟨h.below.setCell (by simpa using l7) _, ?_, ?_, h.sd.setOther (by simpa using n3) _, (h.rk.set x _).congr fun i _ => ?_, ?_, ownsRow_setCell_below h.own (by simp; omega) _, h.lo⟩
  · rw [blk_setCell_other _ _ _ _ (by simpa using n1)]; exact h.hfv
  · rw [blk_setCell_other _ _ _ _ (by simpa using n2)]; exact h.hfp
  · by_cases e : i = x
    · subst e; simp [upd]
    · simp [upd, e]
  · rw [blk_setCell_other _ _ _ _ (by simp; omega)]; exact h.hov

/-- 'f.seed[x] = true'. -/
theorem Fst.cells (h : Fst w wr C seed rank order v) : wr.cell? ⟨C.fv, 0, none⟩ = some (.pointer (some ⟨C.fp, 0, none⟩)) ∧ wr.cell? ⟨C.fp, 1, none⟩ = some (.slice (some ⟨C.SD, 0, none⟩) C.n C.n) ∧ wr.cell? ⟨C.fp, 2, none⟩ = some (.slice (some ⟨C.RK, 0, none⟩) C.n C.n) ∧ wr.cell? ⟨C.ov, 0, none⟩ = some v ∧ wr.frozen? ⟨C.ov, 0, none⟩ = false := by
  refine ⟨by simp [World.cell?, h.hfv], by simp [World.cell?, h.hfp], by simp [World.cell?, h.hfp], by simp [World.cell?, h.hov], by simp [World.frozen?, h.hov]⟩

theorem Fst.shape (h : Fst w wr C seed rank order v) : ∃ a c, v = .slice a order.length c := by
  rcases h.own.2 with ⟨rfl, e⟩ | ⟨g, cap, cur, rfl, _⟩
  · exact ⟨none, 0, by rw [e]⟩
  · exact ⟨_, _, rfl⟩

/-- 'order = append(order, x)'. -/
theorem Fst.push (h : Fst w wr C seed rank order v) (x : Nat) {w1 : World} {g cap : Nat} (ho : w1.ownsRow (C.ov + 1) 3 1 (.slice (some ⟨g, 0, none⟩) (order.length + 1) cap) (order.length + 1) (iv order ++ [.int .i64 (x : Int)])) (hgr : wr.grownBy w1 v.ownBlock) :
    Fst w (w1.setCell ⟨C.ov, 0, none⟩ (.slice (some ⟨g, 0, none⟩) (order.length + 1) cap)) C seed rank (order ++ [x]) (.slice (some ⟨g, 0, none⟩) (order.length + 1) cap) := by
  obtain ⟨l1, l2, l3, l4, l5, l6, l7, l8⟩ := h.lo
  have hov := h.ovlt
  have hlow : ∀ k, k ≤ C.ov → w1.heap[k]? = wr.heap[k]? := fun k hk => hgr.block k (by omega) (fun e => by have := (h.own.lt k e.symm).1; omega)
  have hb1 : Below C.s w w1 := below_grown h.below (by omega) hgr (fun k hk => by have := (h.own.lt k hk).1; omega)
  refine ⟨hb1.setCell (by simp; omega) _, ?_, ?_, (h.sd.of_block (hlow _ (by omega))).setOther (by simp; omega) _, (h.rk.of_block (hlow _ (by omega))).setOther (by simp; omega) _, ?_, ?_, h.lo⟩
  · rw [blk_setCell_other _ _ _ _ (by simp; omega), hlow _ (by omega)]; exact h.hfv
  · rw [blk_setCell_other _ _ _ _ (by simp; omega), hlow _ (by omega)]; exact h.hfp
  · have := (hlow C.ov (Nat.le_refl _)).trans h.hov
    simp [World.setCell, Array.getElem?_modify, this]
  · rw [iv_append, List.length_append]
    exact ownsRow_setCell_below ho (by simp) _

set_option maxRecDepth 100000 in
set_option maxHeartbeats 2000000 in
/-- fire. -/
theorem fire_any (h : Fst w wr C seed rank order v) (x : Nat) (hx : x < C.n) (hol : order.length ≤ 1000) :
    Calls Ybaf.prog 17 #[.int .i64 (x : Int), .pointer (some ⟨C.ov, 0, none⟩), .pointer (some ⟨C.fv, 0, none⟩)] wr fun e w' => (∃ u, e = .returned u) ∧ ∃ v', Fst w w' C seed (upd rank x (order.length : Int)) (order ++ [x]) v' ∧ (∀ k, C.ov < k → k < wr.heap.size → some k ≠ v.ownBlock → w'.heap[k]? = wr.heap[k]?) ∧ (v'.ownBlock = v.ownBlock ∨ ∃ g, v'.ownBlock = some g ∧ wr.heap.size ≤ g) := by
  obtain ⟨a, c, rfl⟩ := h.shape
  obtain ⟨c1, c2, c3, c4, c5⟩ := h.cells
  have r1 := h.rk.cell hx
  have r2 := h.rk.frozen x
  have l1 := h.ovlt
  obtain ⟨q1, q2, q3, q4, q5, q6, q7, q8⟩ := h.lo
  obtain ⟨W1, hW1⟩ : ∃ W1, W1 = (wr.setCell ⟨C.RK, x, none⟩ (.int .i64 (order.length : Int))).drew := ⟨_, rfl⟩
  have hF1 : Fst w W1 C seed (upd rank x (order.length : Int)) order (.slice a order.length c) := by rw [hW1]; exact (h.setRank x _).keep (Below.refl _ _).drew
  have hk1 : ∀ k, C.ov < k → W1.heap[k]? = wr.heap[k]? := fun k hk => by rw [hW1]; exact blk_setCell_other _ _ _ _ (by simp; omega)
  have hs1 : W1.heap.size = wr.heap.size := by rw [hW1]; exact nblk_setCell _ _ _
  obtain ⟨d1, d2, d3, d4, d5⟩ := hF1.cells
  have hfar : ∀ w1 : World, W1.grownBy w1 (Value.slice a order.length c).ownBlock → w1.cell? ⟨C.ov, 0, none⟩ = some (.slice a order.length c) ∧ w1.frozen? ⟨C.ov, 0, none⟩ = false := fun w1 hg => by
    have hb := hg.block C.ov hF1.ovlt (fun e => by have := (hF1.own.lt C.ov e.symm).1; omega)
    exact ⟨(World.cell?_of_block (w := W1) hb).trans d4, (World.frozen?_of_block (w := W1) hb).trans d5⟩
  have hown := hF1.own
  have hbs : C.ov + 1 ≤ W1.heap.size := by omega
  have HF1 := hid hF1
  have HW1 := hid hW1
  have HK1 := hid hk1
  have HS1 := hid hs1
  obtain ⟨ov, eov⟩ : ∃ ov, ov = C.ov := ⟨_, rfl⟩
  obtain ⟨fv, efv⟩ : ∃ ov, ov = C.fv := ⟨_, rfl⟩
  obtain ⟨fp, efp⟩ : ∃ ov, ov = C.fp := ⟨_, rfl⟩
  obtain ⟨RK, eRK⟩ : ∃ ov, ov = C.RK := ⟨_, rfl⟩
  obtain ⟨n, en⟩ : ∃ ov, ov = C.n := ⟨_, rfl⟩
  rw [← eov] at c4 c5 d4 d5 hfar hown hbs ⊢
  rw [← efv, ← efp] at c1
  rw [← efp, ← eRK, ← en] at c3
  rw [← eRK] at r1 r2 HW1
  rw [← efv]
  rw [← en] at hx
  have Heov := hid eov
  have hRov : RK ≠ ov := by omega
  have i0 : (0 : Int) ≤ (x : Int) := by omega
  have i1 : (x : Int) < (n : Int) := by omega
  clear h hF1 hW1 hk1 hs1 eov efv efp eRK en c2 d1 d2 d3 q1 q2 q3 q4 q5 q6 q7 q8
  go_enter Ybaf.func17, Ybaf.ntmps17
  go_wp2_with fail
  go_region
  all_goals
    rw [← HW1.out]
    go_wp2_with ((at_builtin; refine wpList_append_one rfl (.tmp 12) (.tmp 14) 27 rfl 3 (.int .i64 0) 1 8 Ybaf.underlying27 info3 rfl (by omega) (by omega) _ order.length (iv order) rfl (ov + 1) hown hbs [.int .i64 (x : Int)] rfl (by simp [Value.oneCell']) rfl (by omega) ?_; intro g cap w1 ho1 hgr hat; obtain ⟨p1, p2⟩ := hfar w1 hgr))
    (try simp only [Exit.inBlock, Exit.then])
    refine bodyPost_end (results_none rfl _ _ _) rfl ?_
    refine ⟨⟨_, rfl⟩, _, by have := HF1.out.push x (by rw [← Heov.out]; exact ho1) hgr; rw [← Heov.out] at this; exact this, fun k hk hks hne => ?_, ?_⟩
    · rw [blk_setCell_other _ _ _ _ (by simp; omega), hgr.block k (by rw [HS1.out]; exact hks) hne]
      exact HK1.out k (by rw [← Heov.out]; exact hk)
    · rcases hat with e | e
      · left; exact e.symm
      · right; exact ⟨g, rfl, by rw [e, HS1.out]; omega⟩

end

end Go.Proofs.YbulkectmFmt.A
