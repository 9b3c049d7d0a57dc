import Derived.Test.YbulkecuoBHold
import Derived.Test.YbulkecuoBLinks
import Derived.Test.YbulkecuoBMod6
namespace Go.Proofs.Ybulkecuo.B
set_option linter.unusedVariables false
set_option linter.unusedSimpArgs false
open Go.RowKit Go.Deep

/-- What stands when letThrough is called, and ever after. -/
structure All (w wr : World) (gb R NB n qpos xi nh : Nat) (Hv : Value) (hs : List (Nat × Int)) (T M : Nat → Int) (G : Int) : Prop where
  below : Below gb w wr
  pool : ∀ i, i < 8 → wr.cell? ⟨gb + 1, i, none⟩ = some (.pointer (some ⟨gb + 2 + i, 0, none⟩))
  store : Store wr (gb + 2) R gb n xi qpos (fun j => NB + 2 + 2 * j) (rqOf T M) G
  r3 : wr.cell? ⟨R, 3, none⟩ = some Hv
  own : wr.ownsRow (R + 1) 58 2 Hv nh (flat (tb (gb + 2) hs))
  r6 : wr.cell? ⟨R, 6, none⟩ = some (.pointer (some ⟨NB + 2 + 2 * (n - 1), 0, none⟩))
  nodes : ∀ j, j < n → wr.cell? ⟨NB, j, none⟩ = some (.pointer (some ⟨NB + 2 + 2 * j, 0, none⟩))
  blkR : IsBlk wr R

theorem All.keep {w wr wx : World} {gb R NB n qpos xi nh : Nat} {Hv : Value} {hs : List (Nat × Int)} {T M : Nat → Int} {G : Int} (h : All w wr gb R NB n qpos xi nh Hv hs T M G) (hb : Below wr.heap.size wr wx) : All w wx gb R NB n qpos xi nh Hv hs T M G := by
  have kc : ∀ {b o : Nat} {v : Value}, wr.cell? ⟨b, o, none⟩ = some v → wx.cell? ⟨b, o, none⟩ = some v := fun hc => cell_keep hb (lt_of_cell hc) hc
  have hg : gb ≤ wr.heap.size := Nat.le_of_lt (lt_of_cell h.store.gbc)
  exact ⟨h.below.trans (hb.mono hg), fun i hi => kc (h.pool i hi), h.store.keep hb, kc h.r3, own_keep hb h.own, kc h.r6, fun j hj => kc (h.nodes j hj), blk_keep hb (blk_lt h.blkR) h.blkR⟩

def w5of (w4 : World) (R A B X Q : Nat) : World := ((w4.setCell ⟨R, 5, none⟩ (.pointer (some ⟨A, 0, none⟩))).setCell ⟨R, 6, none⟩ (.pointer (some ⟨B, 0, none⟩))).setCell ⟨X, 4, none⟩ (.pointer (some ⟨Q, 0, none⟩))

theorem all_ready {w w1 w2 w4 : World} {gb R NB n qpos xi nh : Nat} {Hv : Value} {hs : List (Nat × Int)} {T M : Nat → Int} {G : Int} (hP : Pool w w1 gb G 8) (hR : R = gb + 10) (hNB : NB = w2.heap.size) (hRN : R < NB) (hH : Hold w1 w2 R (gb + 2) Hv hs) (hl : hs.length = nh)
    (hLk : Links w2 w4 NB (gb + 2) R n (n - 1) T M) (hq : qpos < n) (hxi : xi = (T qpos % 8).toNat) (hx8 : xi < 8) :
    All w (w5of w4 R (NB + 2) (NB + 2 + 2 * (n - 1)) (gb + 2 + xi) (NB + 2 + 2 * qpos)) gb R NB n qpos xi nh Hv hs T M G := by
  have b24 : Below w2.heap.size w2 w4 := by rw [← hNB]; exact hLk.below
  have res4 : w4.heap[R]? = some (.cells (resC Hv (.pointer none) (.pointer none)) 52 (0, 0)) := (hLk.below.block R hRN).trans hH.res
  have lo4 : ∀ b, b < R → w4.heap[b]? = w1.heap[b]? := fun b hb => (hLk.below.block b (by omega)).trans (hH.below.block b hb)
  have tx4 : ∀ i, i < 8 → w4.heap[gb + 2 + i]? = some (.cells (txnC i (.pointer none)) 33 (0, 0)) := fun i hi => (lo4 _ (by omega)).trans (hP.txs i hi)
  have oth : ∀ b, b ≠ R → b ≠ gb + 2 + xi → (w5of w4 R (NB + 2) (NB + 2 + 2 * (n - 1)) (gb + 2 + xi) (NB + 2 + 2 * qpos)).heap[b]? = w4.heap[b]? := fun b h1 h2 => by
    unfold w5of
    rw [blk_setCell_other _ _ _ _ (by simpa using h2), blk_setCell_other _ _ _ _ (by simpa using h1), blk_setCell_other _ _ _ _ (by simpa using h1)]
  have res5 : (w5of w4 R (NB + 2) (NB + 2 + 2 * (n - 1)) (gb + 2 + xi) (NB + 2 + 2 * qpos)).heap[R]? = some (.cells (resC Hv (.pointer (some ⟨NB + 2, 0, none⟩)) (.pointer (some ⟨NB + 2 + 2 * (n - 1), 0, none⟩))) 52 (0, 0)) := by
    unfold w5of
    rw [blk_setCell_other _ _ _ _ (by show R ≠ gb + 2 + xi; omega)]
    simp [World.setCell, Array.getElem?_modify, res4, resC]
  have txx : (w5of w4 R (NB + 2) (NB + 2 + 2 * (n - 1)) (gb + 2 + xi) (NB + 2 + 2 * qpos)).heap[gb + 2 + xi]? = some (.cells (txnC xi (.pointer (some ⟨NB + 2 + 2 * qpos, 0, none⟩))) 33 (0, 0)) := by
    have h1 : ((w4.setCell ⟨R, 5, none⟩ (.pointer (some ⟨NB + 2, 0, none⟩))).setCell ⟨R, 6, none⟩ (.pointer (some ⟨NB + 2 + 2 * (n - 1), 0, none⟩))).heap[gb + 2 + xi]? = some (.cells (txnC xi (.pointer none)) 33 (0, 0)) := by
      rw [blk_setCell_other _ _ _ _ (by show gb + 2 + xi ≠ R; omega), blk_setCell_other _ _ _ _ (by show gb + 2 + xi ≠ R; omega)]
      exact tx4 xi hx8
    unfold w5of
    generalize (w4.setCell ⟨R, 5, none⟩ (.pointer (some ⟨NB + 2, 0, none⟩))).setCell ⟨R, 6, none⟩ (.pointer (some ⟨NB + 2 + 2 * (n - 1), 0, none⟩)) = wz at h1
    simp [World.setCell, Array.getElem?_modify, h1, txnC]
  have hsz4 := hLk.size
  have bel5 : Below gb w (w5of w4 R (NB + 2) (NB + 2 + 2 * (n - 1)) (gb + 2 + xi) (NB + 2 + 2 * qpos)) := by
    have h4 : Below gb w w4 := (hP.below.trans (hH.below.mono (by omega))).trans (hLk.below.mono (by omega))
    exact ((h4.setCell (by show gb ≤ R; omega) _).setCell (by show gb ≤ R; omega) _).setCell (by show gb ≤ gb + 2 + xi; omega) _
  have cellof : ∀ {W : World} {b o : Nat} {c : Array Value} {t : TypeId} {u : Value}, W.heap[b]? = some (.cells c t (0, 0)) → c[o]? = some u → W.cell? ⟨b, o, none⟩ = some u := fun hh hu => by simp [World.cell?, hh, hu]
  have req5 : ∀ j, j < n → (w5of w4 R (NB + 2) (NB + 2 + 2 * (n - 1)) (gb + 2 + xi) (NB + 2 + 2 * qpos)).heap[NB + 2 + 2 * j]? = some (.cells (reqC (gb + 2 + (T j % 8).toNat) R (M j % 3) (if j < n - 1 then P (NB + 2 + 2 * (j + 1)) else .pointer none)) 61 (0, 0)) := fun j hj => (oth _ (by omega) (by omega)).trans (hLk.req j hj)
  refine ⟨bel5, fun i hi => ?_, ⟨fun i hi => ?_, fun i hi => ?_, ?_, fun j hj => ⟨_, req5 j hj⟩, fun j hj => ?_, fun j hj => ?_, fun j hj => ?_, fun j hj => ?_, ?_, ?_⟩, ?_, ?_, ?_, fun j hj => ?_, ⟨_, _, res5⟩⟩
  · have hc := hP.pool.cell hi
    simp only [if_pos hi] at hc
    rw [World.cell?_of_block (w := w1) ((oth (gb + 1) (by omega) (by omega)).trans (lo4 (gb + 1) (by omega)))]
    exact hc
  · by_cases e : i = xi
    · subst e; exact cellof txx (by simp [txnC])
    · exact cellof ((oth _ (by omega) (by omega)).trans (tx4 i hi)) (by simp [txnC])
  · by_cases e : i = xi
    · subst e; exact ⟨_, txx⟩
    · exact ⟨_, (oth _ (by omega) (by omega)).trans (tx4 i hi)⟩
  · exact cellof txx (by simp [txnC])
  · exact cellof (req5 j hj) (by simp [reqC, rqOf])
  · exact cellof (req5 j hj) (by simp [reqC])
  · exact cellof (req5 j hj) (by simp [reqC, rqOf])
  · refine cellof (req5 j hj) ?_
    unfold nxt P
    by_cases e : j + 1 < n
    · simp [reqC, e, show j < n - 1 from by omega]
    · simp [reqC, e, show ¬ j < n - 1 from by omega]
  · exact cellof ((oth _ (by omega) (by omega)).trans ((lo4 _ (by omega)).trans hP.gbb)) (by simp)
  · exact cellof res5 (by simp [resC])
  · exact cellof res5 (by simp [resC])
  · rw [← hl]
    unfold w5of
    exact ownsRow_setCell_below (ownsRow_setCell_below (ownsRow_setCell_below (own_keep b24 hH.own) (by show R < _; omega) _) (by show R < _; omega) _) (by show gb + 2 + xi < _; omega) _
  · exact cellof res5 (by simp [resC])
  · rw [World.cell?_of_block (w := w4) (oth NB (by omega) (by omega))]
    exact hLk.nodes.cell hj

end Go.Proofs.Ybulkecuo.B
