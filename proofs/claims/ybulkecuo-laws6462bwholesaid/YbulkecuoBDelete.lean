import Derived.Test.YbulkecuoBFits
import Derived.Lib.SliceRun
import Derived.Deep.MidRow
namespace Go.Proofs.Ybulkecuo.B
open Go.RowKit Go.Deep

/-- What is kept of the first j holders. -/
def kept (x : Nat) (es : List (Nat × Int)) (j : Nat) : List (Nat × Int) := (es.take j).filter fun e => !decide (e.1 = x)

theorem kept_length (x : Nat) (es : List (Nat × Int)) (j : Nat) : (kept x es j).length ≤ j := by
  have h1 := List.length_filter_le (fun e : Nat × Int => !decide (e.1 = x)) (es.take j)
  have h2 := List.length_take_le j es
  unfold kept
  omega
theorem kept_succ (x : Nat) (es : List (Nat × Int)) (j : Nat) (h : j < es.length) : kept x es (j + 1) = if es[j].1 = x then kept x es j else kept x es j ++ [es[j]] := by
  unfold kept
  rw [List.take_succ_eq_append_getElem h, List.filter_append]
  by_cases e : es[j].1 = x <;> simp [e]
theorem kept_take {x : Nat} {es : List (Nat × Int)} {k : Nat} (hb : ∀ j (hj : j < es.length), j < k → (decide (es[j].1 = x)) = false) : kept x es k = es.take k := by
  unfold kept
  rw [List.filter_eq_self]
  intro e he
  obtain ⟨j, hj, rfl⟩ := List.mem_iff_getElem.1 he
  rw [List.length_take] at hj
  rw [List.getElem_take]
  simp [hb j (by omega) (by omega)]

/-- The row while it is cut down: j holders looked at. -/
structure Del (w wr : World) (g cap n x : Nat) (es : List (Nat × Int)) (j : Nat) : Prop where
  grown : w.grownBy wr (some g)
  row : ∃ f, wr.rowIs g 58 (cap * 2) f ∧ (∀ q (h : q < (kept x es j).length), f (q * 2) = .pointer (some ⟨(kept x es j)[q].1, 0, none⟩) ∧ f (q * 2 + 1) = .int .u8 (kept x es j)[q].2) ∧
    (∀ q (h : q < es.length), j ≤ q → f (q * 2) = .pointer (some ⟨es[q].1, 0, none⟩) ∧ f (q * 2 + 1) = .int .u8 es[q].2)

theorem grown_refl (w : World) (r : Option Nat) : w.grownBy w r := ⟨rfl, rfl, rfl, Nat.le_refl _, fun _ _ _ => rfl⟩
theorem grown_below {w wr wx : World} {g : Nat} (h : w.grownBy wr (some g)) (hb : Below wr.heap.size wr wx) : w.grownBy wx (some g) :=
  ⟨hb.os.trans h.os, hb.tape.trans h.tape, hb.output.trans h.output, Nat.le_trans h.size hb.size, fun k hk hne => (hb.block k (by have := h.size; omega)).trans (h.block k hk hne)⟩
theorem grown_set {w wr : World} {g : Nat} (h : w.grownBy wr (some g)) (o : Nat) (v : Value) : w.grownBy (wr.setCell ⟨g, o, none⟩ v) (some g) :=
  ⟨h.os, h.tape, h.output, by rw [nblk_setCell]; exact h.size, fun k hk hne => by rw [blk_setCell_other _ _ _ _ (fun e => hne (by rw [e]))]; exact h.block k hk hne⟩

theorem Del.drop {w wr wx : World} {g cap n x : Nat} {es : List (Nat × Int)} {j : Nat} (h : Del w wr g cap n x es j) (hj : j < es.length) (hb : Below wr.heap.size wr wx) (he : es[j].1 = x) : Del w wx g cap n x es (j + 1) := by
  obtain ⟨f, hr, h1, h2⟩ := h.row
  refine ⟨grown_below h.grown hb, f, hr.of_block (hb.block g hr.lt), ?_, fun q hq hjq => h2 q hq (by omega)⟩
  have e : kept x es (j + 1) = kept x es j := by rw [kept_succ x es j hj, if_pos he]
  rw [e]
  exact h1

theorem Del.keep {w wr wx : World} {g cap n x : Nat} {es : List (Nat × Int)} {j : Nat} (h : Del w wr g cap n x es j) (hj : j < es.length) (hb : Below wr.heap.size wr wx) (he : ¬ es[j].1 = x) :
    Del w ((wx.setCell ⟨g, (kept x es j).length * 2, none⟩ (.pointer (some ⟨es[j].1, 0, none⟩))).setCell ⟨g, (kept x es j).length * 2 + 1, none⟩ (.int .u8 es[j].2)) g cap n x es (j + 1) := by
  obtain ⟨f, hr, h1, h2⟩ := h.row
  have hkl := kept_length x es j
  have e : kept x es (j + 1) = kept x es j ++ [es[j]] := by rw [kept_succ x es j hj, if_neg he]
  refine ⟨grown_set (grown_set (grown_below h.grown hb) _ _) _ _, _, ((hr.of_block (hb.block g hr.lt)).set _ _).set _ _, ?_, ?_⟩
  · intro q hq
    rw [e, List.length_append, List.length_singleton] at hq
    by_cases eq : q = (kept x es j).length
    · subst eq
      have : (kept x es (j + 1))[(kept x es j).length]'(by rw [e]; simp) = es[j] := by simp [e]
      rw [this]
      simp
    · have hq' : q < (kept x es j).length := by omega
      have : (kept x es (j + 1))[q]'(by rw [e, List.length_append]; omega) = (kept x es j)[q] := by
        simp only [e]
        exact List.getElem_append_left hq'
      rw [this]
      have a1 : ¬ q * 2 = (kept x es j).length * 2 + 1 := by omega
      have a2 : ¬ q * 2 = (kept x es j).length * 2 := by omega
      have a3 : ¬ q * 2 + 1 = (kept x es j).length * 2 + 1 := by omega
      have a4 : ¬ q * 2 + 1 = (kept x es j).length * 2 := by omega
      simp only [if_neg a1, if_neg a2, if_neg a3, if_neg a4]
      exact h1 q hq'
  · intro q hq hjq
    have a1 : ¬ q * 2 = (kept x es j).length * 2 + 1 := by omega
    have a2 : ¬ q * 2 = (kept x es j).length * 2 := by omega
    have a3 : ¬ q * 2 + 1 = (kept x es j).length * 2 + 1 := by omega
    have a4 : ¬ q * 2 + 1 = (kept x es j).length * 2 := by omega
    simp only [if_neg a1, if_neg a2, if_neg a3, if_neg a4]
    exact h2 q hq (by omega)

/-- From an owned row. -/
theorem del_start {w w1 : World} {base g n cap x k : Nat} {es : List (Nat × Int)} (hown : w.ownsRow base 58 2 (.slice (some ⟨g, 0, none⟩) n cap) n (flat es)) (hb : Below w.heap.size w w1) (hk : k < es.length) (hx : es[k].1 = x) (hno : ∀ j (hj : j < es.length), j < k → (decide (es[j].1 = x)) = false) :
    Del w w1 g cap n x es (k + 1) := by
  have hl : es.length * 2 = n * 2 := by rw [← flat_length]; exact hown.1
  rcases hown.2 with ⟨h0, _⟩ | ⟨g', cap', cur, hv, _, hg, hnc, _, hcs, ht⟩
  · cases h0
  · cases hv
    have hr : w.rowIs g 58 (cap * 2) (fun i => cur[i]?.getD undef) := ⟨cur, hg, hcs, fun i hi => by simp [hcs, hi]⟩
    have hc : ∀ q (h : q < es.length), cur[q * 2]?.getD undef = .pointer (some ⟨es[q].1, 0, none⟩) ∧ cur[q * 2 + 1]?.getD undef = .int .u8 es[q].2 := fun q h => by
      have h0 := own_cells hown q h
      simp [World.cell?, hg] at h0
      rw [h0.1, h0.2]
      exact ⟨rfl, rfl⟩
    have e : kept x es (k + 1) = es.take k := by rw [kept_succ x es k hk, if_pos hx, kept_take hno]
    refine ⟨⟨hb.os, hb.tape, hb.output, hb.size, fun k hk _ => hb.block k hk⟩, _, hr.of_block (hb.block g hr.lt), ?_, fun q hq _ => hc q hq⟩
    intro q hq
    have hq' : q < k := by rw [e, List.length_take] at hq; omega
    have : (kept x es (k + 1))[q] = es[q] := by simp only [e, List.getElem_take]
    rw [this]
    exact hc q (by omega)

/-- To an owned row. -/
theorem del_end {w wr : World} {base g cap n x : Nat} {es : List (Nat × Int)} (h : Del w wr g cap n x es es.length) (hb : base ≤ g) (hn : es.length ≤ cap) (hm : cap ≤ maxLen) (wx : World)
    (hx : ∀ o, o < (kept x es es.length).length * 2 → wx.cell? ⟨g, o, none⟩ = wr.cell? ⟨g, o, none⟩) (hrow : ∃ f, wx.rowIs g 58 (cap * 2) f) :
    wx.ownsRow base 58 2 (.slice (some ⟨g, 0, none⟩) (kept x es es.length).length cap) (kept x es es.length).length (flat (kept x es es.length)) := by
  obtain ⟨f, hr, h1, _⟩ := h.row
  obtain ⟨f', c, hg, hcs, hc⟩ := hrow
  have hkl := kept_length x es es.length
  refine ⟨flat_length _, .inr ⟨g, cap, c, rfl, hb, hg, by omega, hm, hcs, ?_⟩⟩
  have hcell : ∀ o, o < (kept x es es.length).length * 2 → c[o]? = some (f o) := fun o ho => by
    have e1 := hx o ho
    rw [hr.cell (by omega)] at e1
    simpa [World.cell?, hg] using e1
  apply List.ext_getElem?
  intro i
  by_cases hi : i < (kept x es es.length).length * 2
  · rw [List.getElem?_take_of_lt hi, Array.getElem?_toList, hcell i hi]
    obtain ⟨m, hm2⟩ : ∃ m, i = m * 2 ∨ i = m * 2 + 1 := ⟨i / 2, by omega⟩
    rcases hm2 with rfl | rfl
    · have hq : m < (kept x es es.length).length := by omega
      rw [(flat_get _ m hq).1, (h1 m hq).1]
    · have hq : m < (kept x es es.length).length := by omega
      rw [(flat_get _ m hq).2, (h1 m hq).2]
  · rw [List.getElem?_eq_none (by rw [List.length_take]; omega), List.getElem?_eq_none (by rw [flat_length]; omega)]

end Go.Proofs.Ybulkecuo.B
