import Derived.Test.YbulkecuoBSpec
import Derived.Deep.AppendLies
namespace Go.Proofs.Ybulkecuo.B
open Go.RowKit Go.Deep

theorem info58 : (Yba.prog.info? 58).map (fun i => (i.zero, i.size, i.bytes)) = some (some (.agg #[.pointer none, .int .u8 0]), 2, 16) := by kernel_rfl
theorem info47 : (Yba.prog.info? 47).map (fun i => (i.zero, i.size, i.bytes)) = some (some (.pointer none), 1, 8) := by kernel_rfl

/-- The holders that are not gone, of the first k. -/
def notGone (G : Int) (hs : List (Nat × Int)) (k : Nat) : List (Nat × Int) := (hs.take k).filter fun e => !goneB G e.1
theorem notGone_succ (G : Int) (hs : List (Nat × Int)) (k : Nat) (h : k < hs.length) : notGone G hs (k + 1) = if goneB G hs[k].1 = true then notGone G hs k else notGone G hs k ++ [hs[k]] := by
  unfold notGone
  rw [List.take_succ_eq_append_getElem h, List.filter_append]
  cases e : goneB G hs[k].1 <;> simp [e]
theorem notGone_length (G : Int) (hs : List (Nat × Int)) (k : Nat) : (notGone G hs k).length ≤ k := by
  have h1 := List.length_filter_le (fun e : Nat × Int => !goneB G e.1) (hs.take k)
  have h2 := List.length_take_le k hs
  unfold notGone
  omega
theorem notGone_mem {G : Int} {hs : List (Nat × Int)} {k : Nat} {e : Nat × Int} (h : e ∈ notGone G hs k) : e ∈ hs := List.mem_of_mem_take (List.mem_filter.1 h).1

/-- The variable 'held' (block hd) and the row that it owns. -/
structure Held (w wr : World) (hd T0 : Nat) (v : Value) (l : List (Nat × Int)) : Prop where
  below : Below hd w wr
  var : wr.heap[hd]? = some (.cells #[v] 49 (0, 0))
  own : wr.ownsRow (hd + 1) 58 2 v l.length (flat (tb T0 l))

theorem Held.cell {w wr : World} {hd T0 : Nat} {v : Value} {l : List (Nat × Int)} (h : Held w wr hd T0 v l) : wr.cell? ⟨hd, 0, none⟩ = some v := by
  simp [World.cell?, h.var]
theorem Held.frozen {w wr : World} {hd T0 : Nat} {v : Value} {l : List (Nat × Int)} (h : Held w wr hd T0 v l) : wr.frozen? ⟨hd, 0, none⟩ = false := by
  simp [World.frozen?, h.var]
theorem Held.lt {w wr : World} {hd T0 : Nat} {v : Value} {l : List (Nat × Int)} (h : Held w wr hd T0 v l) : hd < wr.heap.size := (Array.getElem?_eq_some_iff.1 h.var).1
/-- Nothing old turns. -/
theorem Held.keep {w wr wx : World} {hd T0 : Nat} {v : Value} {l : List (Nat × Int)} (h : Held w wr hd T0 v l) (hb : Below wr.heap.size wr wx) : Held w wx hd T0 v l :=
  ⟨h.below.trans (hb.mono (Nat.le_of_lt h.lt)), (hb.block hd h.lt).trans h.var, own_keep hb h.own⟩
/-- One holder more, and the variable is stored. -/
theorem Held.add {w wr wx w1 : World} {hd T0 g cap : Nat} {v : Value} {l : List (Nat × Int)} (h : Held w wr hd T0 v l) (hb : Below wr.heap.size wr wx) (e : Nat × Int)
    (hown : w1.ownsRow (hd + 1) 58 2 (.slice (some ⟨g, 0, none⟩) (l.length + 1) cap) (l.length + 1) (flat (tb T0 l) ++ [.pointer (some ⟨T0 + e.1, 0, none⟩), .int .u8 e.2])) (hgrow : wx.grownBy w1 v.ownBlock) :
    Held w (w1.setCell ⟨hd, 0, none⟩ (.slice (some ⟨g, 0, none⟩) (l.length + 1) cap)) hd T0 (.slice (some ⟨g, 0, none⟩) (l.length + 1) cap) (l ++ [e]) := by
  have hx := h.keep hb
  have hlow : ∀ k, k ≤ hd → w1.heap[k]? = wx.heap[k]? := fun k hk => hgrow.block k (by have := hx.lt; omega) (fun e => by have := hx.own.lt k e.symm; omega)
  refine ⟨⟨?_, ?_, ?_, ?_, ?_⟩, ?_, ?_⟩
  · exact (hgrow.os).trans hx.below.os
  · exact (hgrow.tape).trans hx.below.tape
  · exact (hgrow.output).trans hx.below.output
  · rw [nblk_setCell]; exact Nat.le_trans hx.below.size hgrow.size
  · intro k hk
    rw [blk_setCell_other _ _ _ _ (by simp; omega), hlow k (by omega)]
    exact hx.below.block k hk
  · have := (hlow hd (Nat.le_refl _)).trans hx.var
    simp [World.setCell, Array.getElem?_modify, this]
  · have e1 : flat (tb T0 (l ++ [e])) = flat (tb T0 l) ++ [.pointer (some ⟨T0 + e.1, 0, none⟩), .int .u8 e.2] := by
      rw [tb_append, flat_append]; rfl
    rw [e1, List.length_append, List.length_singleton]
    exact ownsRow_setCell_below hown (by simp) _

/-- What letThrough's second loop holds. -/
structure L2 (w wr : World) (hd T0 n : Nat) (Nd : Nat → Nat) (pv : Nat) (v o : Value) (j : Nat) (h : List (Nat × Int)) (outs : List Nat) : Prop where
  held : Held w wr hd T0 v h
  pvb : wr.heap[pv]? = some (.cells #[nxt Nd n j] 26 (0, 0))
  hpv : hd < pv
  out : wr.ownsRow (hd + 1) 47 1 o outs.length (outs.map fun t => Value.pointer (some ⟨T0 + t, 0, none⟩))
  nil : outs = [] → o = .slice none 0 0

section
variable {w wr : World} {hd T0 n : Nat} {Nd : Nat → Nat} {pv : Nat} {v o : Value} {j : Nat} {h : List (Nat × Int)} {outs : List Nat}

theorem L2.keep (hL : L2 w wr hd T0 n Nd pv v o j h outs) {wx : World} (hb : Below wr.heap.size wr wx) : L2 w wx hd T0 n Nd pv v o j h outs :=
  ⟨hL.held.keep hb, (hb.block pv (Array.getElem?_eq_some_iff.1 hL.pvb).1).trans hL.pvb, hL.hpv, own_keep hb hL.out, hL.nil⟩

/-- An owned row's block bears its element type. -/
theorem own_type {w : World} {base : Nat} {e : TypeId} {size m : Nat} {v : Value} {xs : List Value} (h : w.ownsRow base e size v m xs) {g : Nat} (hg : v.ownBlock = some g) : ∃ c, w.heap[g]? = some (.cells c e (0, 0)) := by
  rcases h.2 with ⟨rfl, _⟩ | ⟨g', cap, cur, rfl, _, hh, _⟩
  · cases hg
  · simp [Value.ownBlock] at hg
    subst hg
    exact ⟨cur, hh⟩
theorem own_ne {w : World} {base : Nat} {e : TypeId} {size m : Nat} {v : Value} {xs : List Value} (h : w.ownsRow base e size v m xs) {b : Nat} {c : Array Value} {t : TypeId} (hb : w.heap[b]? = some (.cells c t (0, 0))) (hne : t ≠ e) : v.ownBlock ≠ some b := fun hv => by
  obtain ⟨c', hc'⟩ := own_type h hv
  rw [hb] at hc'
  simp only [Option.some.injEq, Obj.cells.injEq] at hc'
  exact hne hc'.2.1

theorem L2.vo (hL : L2 w wr hd T0 n Nd pv v o j h outs) : o.ownBlock = none ∨ o.ownBlock ≠ v.ownBlock := by
  rcases ho : o.ownBlock with _ | g
  · exact .inl rfl
  · right
    intro e
    obtain ⟨c, hc⟩ := own_type hL.out ho
    exact own_ne hL.held.own hc (by decide) e.symm
theorem L2.ov (hL : L2 w wr hd T0 n Nd pv v o j h outs) : v.ownBlock = none ∨ v.ownBlock ≠ o.ownBlock := by
  rcases hv : v.ownBlock with _ | g
  · exact .inl rfl
  · right
    intro e
    obtain ⟨c, hc⟩ := own_type hL.held.own hv
    exact own_ne hL.out hc (by decide) e.symm

/-- 'held' is cut down in place. -/
theorem L2.del (hL : L2 w wr hd T0 n Nd pv v o j h outs) {w2 : World} {v' : Value} {l : List (Nat × Int)} (ho : w2.ownsRow (hd + 1) 58 2 v' l.length (flat (tb T0 l))) (hgr : wr.grownBy w2 v.ownBlock) :
    L2 w (w2.setCell ⟨hd, 0, none⟩ v') hd T0 n Nd pv v' o j l outs := by
  have hlt := hL.held.lt
  have hlow : ∀ k, k < wr.heap.size → v.ownBlock ≠ some k → w2.heap[k]? = wr.heap[k]? := fun k hk hne => hgr.block k hk (fun e => hne e.symm)
  have hhd : ∀ k, k ≤ hd → v.ownBlock ≠ some k := fun k hk e => by have := hL.held.own.lt k e; omega
  refine ⟨⟨⟨hgr.os.trans hL.held.below.os, hgr.tape.trans hL.held.below.tape, hgr.output.trans hL.held.below.output, ?_, fun k hk => ?_⟩, ?_, ownsRow_setCell_below ho (by simp) _⟩, ?_, hL.hpv, ?_, hL.nil⟩
  · rw [nblk_setCell]; exact Nat.le_trans hL.held.below.size hgr.size
  · rw [blk_setCell_other _ _ _ _ (by simp; omega), hlow k (by omega) (hhd k (by omega))]
    exact hL.held.below.block k hk
  · have := (hlow hd hlt (hhd hd (Nat.le_refl _))).trans hL.held.var
    simp [World.setCell, Array.getElem?_modify, this]
  · rw [blk_setCell_other _ _ _ _ (by simp; have := hL.hpv; omega), hlow pv (Array.getElem?_eq_some_iff.1 hL.pvb).1 (own_ne hL.held.own hL.pvb (by decide))]
    exact hL.pvb
  · exact ownsRow_setCell_below (hL.out.kept hgr hL.vo) (by simp) _

/-- One more holder. -/
theorem L2.add (hL : L2 w wr hd T0 n Nd pv v o j h outs) {wx w1 : World} {g cap : Nat} (hb : Below wr.heap.size wr wx) (e : Nat × Int)
    (hown : w1.ownsRow (hd + 1) 58 2 (.slice (some ⟨g, 0, none⟩) (h.length + 1) cap) (h.length + 1) (flat (tb T0 h) ++ [.pointer (some ⟨T0 + e.1, 0, none⟩), .int .u8 e.2])) (hgrow : wx.grownBy w1 v.ownBlock) :
    L2 w (w1.setCell ⟨hd, 0, none⟩ (.slice (some ⟨g, 0, none⟩) (h.length + 1) cap)) hd T0 n Nd pv (.slice (some ⟨g, 0, none⟩) (h.length + 1) cap) o j (h ++ [e]) outs := by
  have hx := hL.keep hb
  have e1 : flat (tb T0 (h ++ [e])) = flat (tb T0 h) ++ [.pointer (some ⟨T0 + e.1, 0, none⟩), .int .u8 e.2] := by
    rw [tb_append, flat_append]; rfl
  have e2 : (h ++ [e]).length = h.length + 1 := by simp
  exact hx.del (l := h ++ [e]) (by rw [e1, e2]; exact hown) hgrow

/-- One more let through. -/
theorem L2.push (hL : L2 w wr hd T0 n Nd pv v o j h outs) {wx w1 : World} {g cap : Nat} (hb : Below wr.heap.size wr wx) (t : Nat)
    (hown : w1.ownsRow (hd + 1) 47 1 (.slice (some ⟨g, 0, none⟩) (outs.length + 1) cap) (outs.length + 1) ((outs.map fun t => Value.pointer (some ⟨T0 + t, 0, none⟩)) ++ [.pointer (some ⟨T0 + t, 0, none⟩)])) (hgrow : wx.grownBy w1 o.ownBlock) :
    L2 w w1 hd T0 n Nd pv v (.slice (some ⟨g, 0, none⟩) (outs.length + 1) cap) j h (outs ++ [t]) := by
  have hx := hL.keep hb
  have hlow : ∀ k, k < wx.heap.size → o.ownBlock ≠ some k → w1.heap[k]? = wx.heap[k]? := fun k hk hne => hgrow.block k hk (fun e => hne e.symm)
  have hhd : ∀ k, k ≤ hd → o.ownBlock ≠ some k := fun k hk e => by have := hx.out.lt k e; omega
  refine ⟨⟨⟨hgrow.os.trans hx.held.below.os, hgrow.tape.trans hx.held.below.tape, hgrow.output.trans hx.held.below.output, Nat.le_trans hx.held.below.size hgrow.size, fun k hk => ?_⟩, ?_, hx.held.own.kept hgrow hx.ov⟩, ?_, hx.hpv, ?_, fun e => absurd e (by simp)⟩
  · rw [hlow k (by have := hx.held.lt; omega) (hhd k (by omega))]
    exact hx.held.below.block k hk
  · exact (hlow hd hx.held.lt (hhd hd (Nat.le_refl _))).trans hx.held.var
  · exact (hlow pv (Array.getElem?_eq_some_iff.1 hx.pvb).1 (own_ne hx.out hx.pvb (by decide))).trans hx.pvb
  · simpa using hown

/-- On to the next request. -/
theorem L2.next (hL : L2 w wr hd T0 n Nd pv v o j h outs) : L2 w (wr.alloc (.cells #[nxt Nd n (j + 1)] 26)) hd T0 n Nd wr.heap.size v o (j + 1) h outs := by
  have hb : Below wr.heap.size wr (wr.alloc (.cells #[nxt Nd n (j + 1)] 26)) := (Below.refl _ _).alloc (Nat.le_refl _) _
  have hx := hL.keep hb
  exact ⟨hx.held, blk_alloc_new _ _, hL.held.lt, hx.out, hL.nil⟩
end

end Go.Proofs.Ybulkecuo.B
