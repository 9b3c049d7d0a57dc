import Derived.Test.YbulkecxuCClone
import Derived.Great.BuildSlice
namespace Go.Proofs.Ybulkecxu.C
open Go.RowKit Go.Deep

/-- A slice literal of one member, kept shut. -/
def bsl22 (n : Nat) (X : Array (Nat × Value)) : Sem Value := Instr.buildSlice 22 n X
theorem toBsl22 (n : Nat) (X : Array (Nat × Value)) : Instr.buildSlice 22 n X = bsl22 n X := rfl

theorem len21 {m : List Value} (h : m.length = 21) : ∃ a0 a1 a2 a3 a4 a5 a6 a7 a8 a9 a10 a11 a12 a13 a14 a15 a16 a17 a18 a19 a20, m = [a0, a1, a2, a3, a4, a5, a6, a7, a8, a9, a10, a11, a12, a13, a14, a15, a16, a17, a18, a19, a20] := by
  match m, h with
  | [a0, a1, a2, a3, a4, a5, a6, a7, a8, a9, a10, a11, a12, a13, a14, a15, a16, a17, a18, a19, a20], _ => exact ⟨a0, a1, a2, a3, a4, a5, a6, a7, a8, a9, a10, a11, a12, a13, a14, a15, a16, a17, a18, a19, a20, rfl⟩

theorem bs_mem (m : List Value) (h : m.length = 21) (w : World) : (bsl22 1 #[(0, .agg m.toArray)]).run Yba.prog w = .ok (.slice (some ⟨w.heap.size, 0, none⟩) 1 1) (w.alloc (.cells m.toArray 28)) := by
  obtain ⟨i0, hi0, hz0, hz1, hz2⟩ := info_parts info28
  refine run_buildSlice (P := Yba.prog) w 22 28 1 #[(0, .agg m.toArray)] m.toArray i0 (.agg zeroM.toArray) Yba.underlying22 hi0 hz0 (by omega) (by omega) ?_
  rw [hz1]
  obtain ⟨a0, a1, a2, a3, a4, a5, a6, a7, a8, a9, a10, a11, a12, a13, a14, a15, a16, a17, a18, a19, a20, rfl⟩ := len21 h
  generalize hz : (Array.map (fun x => (Value.agg zeroM.toArray).cells[x % (Value.agg zeroM.toArray).cells.size]!) (Array.range (1 * 21))) = Z
  have hZ : Z.toList.length = 21 := by rw [← hz]; simp
  obtain ⟨b0, b1, b2, b3, b4, b5, b6, b7, b8, b9, b10, b11, b12, b13, b14, b15, b16, b17, b18, b19, b20, hb⟩ := len21 hZ
  obtain rfl : Z = [b0, b1, b2, b3, b4, b5, b6, b7, b8, b9, b10, b11, b12, b13, b14, b15, b16, b17, b18, b19, b20].toArray := by rw [← hb]
  simp [Instr.fill, Value.cells]

/-- Behind k calls of the law's yield. g: 'got'; g + 1: 'calls'; g + 2: 'limit'; g + 3: the box of n; g + 4: the two lists. -/
structure Got (w wr : World) (g : Nat) (lim : Int) (n : Nat) (sl : Value) (A : Nat → List Value) (k : Nat) (v : Value) : Prop where
  below : Below g w wr
  size : g + 5 ≤ wr.heap.size
  gotc : wr.heap[g]? = some (.cells #[v] 22 (0, 0))
  callc : wr.heap[g + 1]? = some (.cells #[.int .i64 k] 3 (0, 0))
  limc : wr.heap[g + 2]? = some (.cells #[.int .i64 lim] 3 (0, 0))
  bxc : wr.heap[g + 3]? = some (.cells #[P n] 29 (0, 0))
  lst : wr.heap[g + 4]? = some (.cells #[.slice (some ⟨n, 24, none⟩) 160 160, sl] 22 (0, 0))
  own : wr.ownsRow (g + 5) 28 21 v k (flat A k)

section
variable {w wr : World} {g : Nat} {lim : Int} {n : Nat} {sl : Value} {A : Nat → List Value} {k : Nat} {v : Value}

/-- Nothing old turns. -/
theorem Got.keep (h : Got w wr g lim n sl A k v) {wx : World} (hb : Below wr.heap.size wr wx) : Got w wx g lim n sl A k v := by
  have hs := h.size
  exact ⟨h.below.trans (hb.mono (by omega)), Nat.le_trans hs hb.size, (hb.block _ (by omega)).trans h.gotc, (hb.block _ (by omega)).trans h.callc, (hb.block _ (by omega)).trans h.limc, (hb.block _ (by omega)).trans h.bxc, (hb.block _ (by omega)).trans h.lst, own_keep hb h.own⟩

/-- What the yield finds behind its append. -/
theorem Got.far (h : Got w wr g lim n sl A k v) (bb : Nat) (brk : Bool) (hbb : bb < g) (hbrk : wr.cell? ⟨bb, 0, none⟩ = some (.bool brk)) (m : Array Value) (x : Value) :
    ∀ w1, (((wr.setCell ⟨g + 1, 0, none⟩ x).alloc (.cells m 28)).alloc (.cells m 28)).grownBy w1 v.ownBlock →
      w1.cell? ⟨g, 0, none⟩ = some v ∧ w1.frozen? ⟨g, 0, none⟩ = false ∧ w1.cell? ⟨g + 1, 0, none⟩ = some x ∧ w1.cell? ⟨g + 2, 0, none⟩ = some (.int .i64 lim) ∧ w1.cell? ⟨bb, 0, none⟩ = some (.bool brk) := by
  intro w1 hg
  have hs := h.size
  have hblk : ∀ i, i < g + 5 → w1.heap[i]? = (wr.setCell ⟨g + 1, 0, none⟩ x).heap[i]? := fun i hi => by
    rw [hg.block i (by rw [nblk_alloc, nblk_alloc, nblk_setCell]; omega) (fun e => by have := h.own.lt i e.symm; omega)]
    rw [blk_alloc_lt _ _ _ (by rw [nblk_alloc, nblk_setCell]; omega)]
    exact blk_alloc_lt _ _ _ (by rw [nblk_setCell]; omega)
  have hold : ∀ i, i < g + 5 → i ≠ g + 1 → w1.heap[i]? = wr.heap[i]? := fun i hi hne => by
    rw [hblk i hi, blk_setCell_other _ _ _ _ (by simpa using hne)]
  have b1 := (hold g (by omega) (by omega)).trans h.gotc
  have b2 := (hold (g + 2) (by omega) (by omega)).trans h.limc
  have b3 : w1.heap[g + 1]? = some (.cells #[x] 3 (0, 0)) := by
    rw [hblk (g + 1) (by omega)]
    simp [World.setCell, Array.getElem?_modify, h.callc]
  refine ⟨by simp [World.cell?, b1], by simp [World.frozen?, b1], by simp [World.cell?, b3], by simp [World.cell?, b2], ?_⟩
  rw [World.cell?_of_block (w := wr) (hold bb (by omega) (by omega))]
  exact hbrk

/-- One member more. -/
theorem Got.add (h : Got w wr g lim n sl A k v) (m : Array Value) {w1 : World} {g2 cap : Nat}
    (hg : (((wr.setCell ⟨g + 1, 0, none⟩ (.int .i64 ((k : Int) + 1))).alloc (.cells m 28)).alloc (.cells m 28)).grownBy w1 v.ownBlock)
    (hown : w1.ownsRow (g + 5) 28 21 (.slice (some ⟨g2, 0, none⟩) (k + 1) cap) (k + 1) (flat A k ++ A k)) :
    Got w (w1.setCell ⟨g, 0, none⟩ (.slice (some ⟨g2, 0, none⟩) (k + 1) cap)) g lim n sl A (k + 1) (.slice (some ⟨g2, 0, none⟩) (k + 1) cap) := by
  have hs := h.size
  have hblk : ∀ i, i < g + 5 → w1.heap[i]? = (wr.setCell ⟨g + 1, 0, none⟩ (.int .i64 ((k : Int) + 1))).heap[i]? := fun i hi => by
    rw [hg.block i (by rw [nblk_alloc, nblk_alloc, nblk_setCell]; omega) (fun e => by have := h.own.lt i e.symm; omega)]
    rw [blk_alloc_lt _ _ _ (by rw [nblk_alloc, nblk_setCell]; omega)]
    exact blk_alloc_lt _ _ _ (by rw [nblk_setCell]; omega)
  have hold : ∀ i, i < g + 5 → i ≠ g + 1 → w1.heap[i]? = wr.heap[i]? := fun i hi hne => by
    rw [hblk i hi, blk_setCell_other _ _ _ _ (by simpa using hne)]
  have b1 := (hold g (by omega) (by omega)).trans h.gotc
  have b3 : w1.heap[g + 1]? = some (.cells #[.int .i64 ((k : Int) + 1)] 3 (0, 0)) := by
    rw [hblk (g + 1) (by omega)]
    simp [World.setCell, Array.getElem?_modify, h.callc]
  have hsz : wr.heap.size ≤ w1.heap.size := by have := hg.size; rw [nblk_alloc, nblk_alloc, nblk_setCell] at this; omega
  refine ⟨⟨hg.os.trans h.below.os, hg.tape.trans h.below.tape, hg.output.trans h.below.output, ?_, fun i hi => ?_⟩, by rw [nblk_setCell]; omega, ?_, ?_, ?_, ?_, ?_, ?_⟩
  · rw [nblk_setCell]; exact Nat.le_trans h.below.size hsz
  · rw [blk_setCell_other _ _ _ _ (by simp; omega), hold i (by omega) (by omega)]
    exact h.below.block i hi
  · simp [World.setCell, Array.getElem?_modify, b1]
  · rw [blk_setCell_other _ _ _ _ (by simp)]; exact b3
  · rw [blk_setCell_other _ _ _ _ (by simp), hold _ (by omega) (by omega)]; exact h.limc
  · rw [blk_setCell_other _ _ _ _ (by simp), hold _ (by omega) (by omega)]; exact h.bxc
  · rw [blk_setCell_other _ _ _ _ (by simp), hold _ (by omega) (by omega)]; exact h.lst
  · rw [flat_succ]
    exact ownsRow_setCell_below hown (by simp) _

end

attribute [local go_sem ↓] toLd28 toBsl22

theorem len_block {w : World} {b : Nat} {m : List Value} (h : w.heap[b]? = some (.cells m.toArray 28 (0, 0))) : w.rangeAt b 0 m := fun j v hv => by
  simp [World.cell?, h, hv]

set_option maxRecDepth 100000 in
set_option maxHeartbeats 1000000 in
/-- The law's own yield. -/
theorem yield_any (w wr : World) (g : Nat) (lim : Int) (n : Nat) (sl : Value) (A : Nat → List Value) (k : Nat) (v : Value) (h : Got w wr g lim n sl A k v) (bb : Nat) (brk : Bool) (hbb : bb < g) (hbrk : wr.cell? ⟨bb, 0, none⟩ = some (.bool brk))
    (hm : Mem (A k)) (hk : k ≤ 2000000) :
    Calls Yba.prog 6 #[.agg (A k).toArray, .pointer (some ⟨g + 1, 0, none⟩), .pointer (some ⟨g, 0, none⟩), .pointer (some ⟨bb, 0, none⟩), .pointer (some ⟨g + 2, 0, none⟩)] wr
      fun e w' => e = .returned (.bool (!(brk && decide (lim ≤ (k : Int) + 1)))) ∧ ∃ v', Got w w' g lim n sl A (k + 1) v' := by
  obtain ⟨i0, hi0, hz0, hz1, hz2⟩ := info_parts info28
  have hs := h.size
  have hfar := h.far bb brk hbb hbrk (A k).toArray (.int .i64 ((k : Int) + 1))
  have HA := hid (fun w1 g2 cap => h.add (A k).toArray (w1 := w1) (g2 := g2) (cap := cap))
  have hl := hm.len
  have l0 : g < wr.heap.size := by omega
  have l1 : g + 1 < wr.heap.size := by omega
  have c0 : wr.cell? ⟨g, 0, none⟩ = some v := by simp [World.cell?, h.gotc]
  have c1 : wr.cell? ⟨g + 1, 0, none⟩ = some (.int .i64 k) := by simp [World.cell?, h.callc]
  have f1 : wr.frozen? ⟨g + 1, 0, none⟩ = false := by simp [World.frozen?, h.callc]
  have hown : (((wr.setCell ⟨g + 1, 0, none⟩ (.int .i64 ((k : Int) + 1))).alloc (.cells (A k).toArray 28)).alloc (.cells (A k).toArray 28)).ownsRow (g + 5) 28 21 v k (flat A k) := by
    refine World.ownsRow.alloc (World.ownsRow.alloc ?_ _) _
    exact ownsRow_setCell_below h.own (by simp) _
  have hld := load_mem ((wr.setCell ⟨g + 1, 0, none⟩ (.int .i64 ((k : Int) + 1))).alloc (.cells (A k).toArray 28)) wr.heap.size 0 (A k) hm (len_block (by
    have := blk_alloc_new (wr.setCell ⟨g + 1, 0, none⟩ (.int .i64 ((k : Int) + 1))) (.cells (A k).toArray 28)
    rw [nblk_setCell] at this
    exact this))
  have hbs := bs_mem (A k) hl ((wr.setCell ⟨g + 1, 0, none⟩ (.int .i64 ((k : Int) + 1))).alloc (.cells (A k).toArray 28))
  rw [nblk_alloc, nblk_setCell] at hbs
  have hwr : IntKind.i64.wrap ((k : Int) + 1) = (k : Int) + 1 := by rw [IntKind.wrap_i64]; omega
  have hnew : ∀ (j : Nat) (u : Value), (A k)[j]? = some u → (((wr.setCell ⟨g + 1, 0, none⟩ (.int .i64 ((k : Int) + 1))).alloc (.cells (A k).toArray 28)).alloc (.cells (A k).toArray 28)).cell? ((⟨wr.heap.size + 1, 0, none⟩ : Addr).add j) = some u := by
    have hb := blk_alloc_new ((wr.setCell ⟨g + 1, 0, none⟩ (.int .i64 ((k : Int) + 1))).alloc (.cells (A k).toArray 28)) (.cells (A k).toArray 28)
    rw [nblk_alloc, nblk_setCell] at hb
    exact World.news_of_block hb
  have hone := hm.one
  have h63 : k + 1 ≤ maxLen := by unfold maxLen; omega
  clear hm h
  cases brk with
  | false =>
    go_enter Yba.func6, Yba.ntmps6
    go_wp2_with ((at_builtin; refine wpList_append_lies _ rfl (.tmp 9) (.tmp 11) 22 rfl (g + 5) 28 i0 (.agg zeroM.toArray) 21 40 Yba.underlying22 hi0 hz0 hz1 hz2 rfl (by omega) v k (flat A k) rfl hown ⟨wr.heap.size + 1, 0, none⟩ 1 1 (A k) rfl (by rw [hl]) hnew hone (by omega) h63 (by omega) (by simp; omega) (wr.heap.size + 2) (by simp) ?_; intro g2 cap2 w1 ho1 hgr hat hlt2; obtain ⟨p1, p2, p3, p4, p5⟩ := hfar w1 hgr))
    go_ret
    exact ⟨ret_bool (by simp), _, HA.out _ _ _ hgr ho1⟩
  | true =>
    by_cases ht : lim ≤ (k : Int) + 1
    · have ht1 : decide (lim ≤ (k : Int) + 1) = true := decide_eq_true ht
      go_enter Yba.func6, Yba.ntmps6
      go_wp2_with ((at_builtin; refine wpList_append_lies _ rfl (.tmp 9) (.tmp 11) 22 rfl (g + 5) 28 i0 (.agg zeroM.toArray) 21 40 Yba.underlying22 hi0 hz0 hz1 hz2 rfl (by omega) v k (flat A k) rfl hown ⟨wr.heap.size + 1, 0, none⟩ 1 1 (A k) rfl (by rw [hl]) hnew hone (by omega) h63 (by omega) (by simp; omega) (wr.heap.size + 2) (by simp) ?_; intro g2 cap2 w1 ho1 hgr hat hlt2; obtain ⟨p1, p2, p3, p4, p5⟩ := hfar w1 hgr))
      go_ret
      exact ⟨ret_bool (by simp [ht]), _, HA.out _ _ _ hgr ho1⟩
    · have ht1 : decide (lim ≤ (k : Int) + 1) = false := decide_eq_false ht
      go_enter Yba.func6, Yba.ntmps6
      go_wp2_with ((at_builtin; refine wpList_append_lies _ rfl (.tmp 9) (.tmp 11) 22 rfl (g + 5) 28 i0 (.agg zeroM.toArray) 21 40 Yba.underlying22 hi0 hz0 hz1 hz2 rfl (by omega) v k (flat A k) rfl hown ⟨wr.heap.size + 1, 0, none⟩ 1 1 (A k) rfl (by rw [hl]) hnew hone (by omega) h63 (by omega) (by simp; omega) (wr.heap.size + 2) (by simp) ?_; intro g2 cap2 w1 ho1 hgr hat hlt2; obtain ⟨p1, p2, p3, p4, p5⟩ := hfar w1 hgr))
      go_ret
      exact ⟨ret_bool (by simp), _, HA.out _ _ _ hgr ho1⟩

end Go.Proofs.Ybulkecxu.C
