import Derived.Test.YbulkecxuCEqual
import Derived.Deep.Upon
namespace Go.Proofs.Ybulkecxu.C
open Go.RowKit Go.Deep

theorem info28 : (Yba.prog.info? 28).map (fun i => (i.zero, i.size, i.bytes)) = some (some (.agg zeroM.toArray), 21, 40) := by kernel_rfl

theorem wpList_append_nothing {w : World} {ops : Array Oper} {rest : List Oper} {o : Oper} {a : Act} {Q : Exit → Act → World → Prop} (hgd : o.guard = none) (s x : Operand) (t : TypeId)
    (ho : o.op = .call { callee := .builtin .append, args := #[s, x], argTypes := #[t, t] })
    (e : TypeId) (i : TypeInfo) (ht : Yba.prog.underlying t = some (.slice e)) (hi : Yba.prog.info? e = some i)
    (b : Option Addr) (l c : Nat) (hle : l ≤ c) (hs : a.eval s = .slice b l c) (ad : Addr) (c2 : Nat) (hx : a.eval x = .slice (some ad) 0 c2)
    (h : wpList Yba.prog ops Q rest (a.put o.dst (.slice b l c)) w) : wpList Yba.prog ops Q (o :: rest) a w := by
  refine wpList_plain hgd fun K hK => ?_
  have hrun := run_append_nothing (P := Yba.prog) w t t o.type e i ht hi b l c hle (.slice (some ad) 0 c2) (Src.ofSlice w ht ad 0 c2 [] (by simp) (by simp) (by simp))
  unfold Oper.wp
  simp [execOp, ho, resolve, invoke, builtin, hs, hx, hrun, Result.andThen]
  exact hK _ _ h

/-- A value that is a slice of n members. -/
def IsRow (w : World) (v : Value) (n : Nat) (E : Nat → List Value) : Prop := ∃ a c, v = .slice a n c ∧ Came w a n E

/-- The rows of a slice that is the call's own. -/
theorem came_own {w : World} {base n : Nat} {v : Value} {A : Nat → List Value} (h : w.ownsRow base 28 21 v n (flat A n)) (hm : ∀ i, i < n → Mem (A i)) : ∃ a c, v = .slice a n c ∧ Came w a n A := by
  rcases h.2 with ⟨rfl, rfl⟩ | ⟨g, cap, cur, rfl, _⟩
  · exact ⟨none, 0, rfl, fun i hi => absurd hi (by omega)⟩
  · refine ⟨_, _, rfl, fun i hi => ⟨hm i hi, g, 0, rfl, fun j hj => ?_⟩⟩
    intro q u hu
    have hq : q < 21 := by have := (List.getElem?_eq_some_iff.1 hu).1; rw [(hm j hj).len] at this; exact this
    have := h.cellAt (0 + j * 21 + q) (by omega)
    rw [this, Nat.zero_add, flat_get n hm j hj q hq, hu]

theorem came_keep {B : Nat} {w w' : World} (hb : Below B w w') {a : Option Addr} {n : Nat} {E : Nat → List Value} (hB : ∀ x, a = some x → 0 < n → x.block < B) (h : Came w a n E) : Came w' a n E := fun i hi => by
  obtain ⟨hm, b, o, rfl, hr⟩ := h i hi
  refine ⟨hm, b, o, rfl, fun j hj q u hu => ?_⟩
  have hB' := hB _ rfl (by omega)
  exact cell_keep hb hB' (hr j hj q u hu)

theorem came_lt {w : World} {a : Option Addr} {n : Nat} {E : Nat → List Value} (h : Came w a n E) : ∀ x, a = some x → 0 < n → x.block < w.heap.size := fun x hx hn => by
  obtain ⟨hm, b, o, rfl, hr⟩ := h 0 hn
  cases hx
  have hl := hm.len
  have := hr 0 hn 0 (E 0)[0] (List.getElem?_eq_getElem (by omega))
  exact lt_of_cell this

theorem came_news {w : World} {ad : Addr} {n : Nat} {E : Nat → List Value} (h : Came w (some ad) n E) (o : Obj) : ∀ (j : Nat) (u : Value), (flat E n)[j]? = some u → (w.alloc o).cell? (ad.add j) = some u := fun j u hj => by
  have hm : ∀ i, i < n → Mem (E i) := fun i hi => (h i hi).1
  have hlt : j < n * 21 := by rw [← flat_len n hm]; exact (List.getElem?_eq_some_iff.1 hj).1
  have hn : 0 < n := by omega
  obtain ⟨_, b, off, e, hr⟩ := h 0 hn
  cases e
  have hd : j / 21 < n := by omega
  have hmod : j % 21 < 21 := by omega
  have e1 : j / 21 * 21 + j % 21 = j := by omega
  have := hr (j / 21) hd (j % 21) u (by rw [← flat_get n hm (j / 21) hd (j % 21) hmod, e1]; exact hj)
  rw [Nat.add_assoc, e1] at this
  rw [World.cell?_alloc_lt _ _ _ (by rw [Addr.add_mid]; exact lt_of_cell this), Addr.add_mid]
  exact this

set_option maxRecDepth 100000 in
set_option maxHeartbeats 1000000 in
/-- slices.Clone of a row that came in. -/
theorem clone_any (a : Option Addr) (n c : Nat) (E : Nat → List Value) (w : World) (hc : Came w a n E) (hn : n ≤ 1048576) (hnil : a = none → n = 0 ∧ c = 0) :
    Calls Yba.prog 4 #[.slice a n c] w fun e w' => ∃ v', e = .returned v' ∧ IsRow w' v' n E ∧ Below w.heap.size w w' := by
  have hm : ∀ i, i < n → Mem (E i) := fun i hi => (hc i hi).1
  cases a with
  | none =>
    obtain ⟨rfl, rfl⟩ := hnil rfl
    have hq := eql22 w none 0 0
    go_enter Yba.func4, Yba.ntmps4
    go_wp2
    go_ret
    exact ⟨_, rfl, ⟨none, 0, rfl, fun i hi => absurd hi (by omega)⟩, Below.refl _ _⟩
  | some ad =>
    obtain ⟨i0, hi0, hz0, hz1, hz2⟩ := info_parts info28
    have hq := eql22 w (some ad) n c
    have hbel : Below w.heap.size w (w.alloc (.cells #[] 28)) := (Below.refl _ _).alloc (Nat.le_refl _) _
    by_cases h0 : n = 0
    · subst h0
      go_enter Yba.func4, Yba.ntmps4
      go_wp2_with ((at_builtin; refine wpList_append_nothing rfl (.tmp 5) (.tmp 6) 22 rfl 28 i0 Yba.underlying22 hi0 _ 0 0 (Nat.le_refl _) rfl ad c rfl ?_))
      go_ret
      exact ⟨_, rfl, ⟨_, _, rfl, fun i hi => absurd hi (by omega)⟩, hbel⟩
    · have hone := flat_one n hm
      have h63 : 0 + n ≤ maxLen := by unfold maxLen; omega
      have hnew := came_news hc (.cells #[] 28)
      have hrow : (w.alloc (.cells #[] 28)).ownsRow w.heap.size 28 21 (.slice (some ⟨w.heap.size, 0, none⟩) 0 0) 0 [] := ⟨rfl, .inr ⟨w.heap.size, 0, #[], rfl, Nat.le_refl _, blk_alloc_new _ _, Nat.le_refl _, Nat.zero_le _, rfl, rfl⟩⟩
      go_enter Yba.func4, Yba.ntmps4
      go_wp2_with ((at_builtin; refine wpList_append_lies _ rfl (.tmp 5) (.tmp 6) 22 rfl w.heap.size 28 i0 (.agg zeroM.toArray) 21 40 Yba.underlying22 hi0 hz0 hz1 hz2 rfl (by omega) (.slice (some ⟨w.heap.size, 0, none⟩) 0 0) 0 [] rfl hrow ad n c (flat E n) rfl (flat_len n hm) hnew hone (by omega) h63 (by omega) (by simp) (w.heap.size + 1) (by simp) ?_; intro g2 cap2 w1 ho1 hgr hat hlt2))
      go_ret
      have ho2 : w1.ownsRow w.heap.size 28 21 (.slice (some ⟨g2, 0, none⟩) n cap2) n (flat E n) := by simpa using ho1
      obtain ⟨a', c', e1, hca⟩ := came_own ho2 hm
      refine ⟨_, rfl, ⟨a', c', e1, hca⟩, hgr.os, hgr.tape, hgr.output, ?_, fun k hk => ?_⟩
      · have := hgr.size
        rw [nblk_alloc] at this
        omega
      · rw [hgr.block k (by rw [nblk_alloc]; omega) (fun e => by simp [Value.ownBlock] at e; omega)]
        exact blk_alloc_lt _ _ _ hk

end Go.Proofs.Ybulkecxu.C
