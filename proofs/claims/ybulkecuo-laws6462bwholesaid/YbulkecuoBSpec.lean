import Derived.Test.YbulkecuoBDelete2
import Derived.Test.YbulkecuoBGone
namespace Go.Proofs.Ybulkecuo.B
open Go.RowKit Go.Deep

/-- The holders by their blocks: transaction i lies at T0 + i. -/
def tb (T0 : Nat) (l : List (Nat × Int)) : List (Nat × Int) := l.map fun e => (T0 + e.1, e.2)

theorem tb_length (T0 : Nat) (l : List (Nat × Int)) : (tb T0 l).length = l.length := by simp [tb]
theorem tb_append (T0 : Nat) (a b : List (Nat × Int)) : tb T0 (a ++ b) = tb T0 a ++ tb T0 b := by simp [tb]
theorem blk_tb (T0 i x : Nat) (m o : Int) : blk (T0 + i) m (T0 + x) o = blk i m x o := by
  unfold blk
  rw [show decide (T0 + i = T0 + x) = decide (i = x) from by rw [decide_eq_decide]; omega]
theorem fits_tb (T0 x : Nat) (l : List (Nat × Int)) (o : Int) : fitsL (tb T0 l) (T0 + x) o = fitsL l x o := by
  unfold fitsL tb
  rw [List.any_map]
  congr 2
  funext e
  exact blk_tb T0 e.1 x e.2 o
/-- What DeleteFunc leaves. -/
def struck (x : Nat) (l : List (Nat × Int)) : List (Nat × Int) := l.filter fun e => !decide (e.1 = x)
theorem kept_tb (T0 x : Nat) (l : List (Nat × Int)) : kept (T0 + x) (tb T0 l) (tb T0 l).length = tb T0 (struck x l) := by
  unfold kept struck
  rw [List.take_length]
  unfold tb
  rw [List.filter_map]
  congr 1
  apply List.filter_congr
  intro e _
  simp only [Function.comp]
  rw [show decide (T0 + e.1 = T0 + x) = decide (e.1 = x) from by rw [decide_eq_decide]; omega]

/-- One request of the queue. -/
structure Req where
  t : Nat
  m : Int

/-- What a serve of the queue comes to, j requests looked at: none: x's own request is granted; else the holders, and who is let through. -/
def run (G : Int) (xi qpos : Nat) (qm : Int) (rq : Nat → Req) (h0 : List (Nat × Int)) : Nat → Option (List (Nat × Int) × List Nat)
  | 0 => some (h0, [])
  | j + 1 => match run G xi qpos qm rq h0 j with
    | none => none
    | some (h, o) =>
      if j = qpos then (if fitsL h xi qm = true then none else some (h, o))
      else if (goneB G (rq j).t || !fitsL h (rq j).t (rq j).m) = true then some (h, o)
      else some (struck (rq j).t h ++ [((rq j).t, (rq j).m)], if blk (rq j).t (rq j).m xi qm = true then o ++ [(rq j).t] else o)

theorem run_lt {G : Int} {xi qpos : Nat} {qm : Int} {rq : Nat → Req} {h0 : List (Nat × Int)} (hh : ∀ e ∈ h0, e.1 < 8) (hr : ∀ j, (rq j).t < 8) : ∀ (j : Nat) (h : List (Nat × Int)) (o : List Nat), run G xi qpos qm rq h0 j = some (h, o) →
    (∀ e ∈ h, e.1 < 8) ∧ (∀ t ∈ o, t < 8) ∧ h.length ≤ h0.length + j ∧ o.length ≤ j := by
  intro j
  induction j with
  | zero =>
    intro h o e
    simp only [run, Option.some.injEq, Prod.mk.injEq] at e
    obtain ⟨rfl, rfl⟩ := e
    exact ⟨hh, fun t ht => absurd ht (by simp), by omega, by simp⟩
  | succ j ih =>
    intro h o e
    rw [run] at e
    cases hj : run G xi qpos qm rq h0 j with
    | none => rw [hj] at e; cases e
    | some p =>
      obtain ⟨h', o'⟩ := p
      obtain ⟨i1, i2, i3, i4⟩ := ih h' o' hj
      rw [hj] at e
      simp only at e
      split at e
      · split at e
        · cases e
        · simp only [Option.some.injEq, Prod.mk.injEq] at e
          obtain ⟨rfl, rfl⟩ := e
          exact ⟨i1, i2, by omega, by omega⟩
      · split at e
        · simp only [Option.some.injEq, Prod.mk.injEq] at e
          obtain ⟨rfl, rfl⟩ := e
          exact ⟨i1, i2, by omega, by omega⟩
        · simp only [Option.some.injEq, Prod.mk.injEq] at e
          obtain ⟨rfl, rfl⟩ := e
          have hf := List.length_filter_le (fun e : Nat × Int => !decide (e.1 = (rq j).t)) h'
          refine ⟨?_, ?_, ?_, ?_⟩
          · intro e he
            rcases List.mem_append.1 he with he | he
            · exact i1 e (List.mem_filter.1 he).1
            · rw [List.mem_singleton] at he; subst he; exact hr j
          · intro t ht
            split at ht
            · rcases List.mem_append.1 ht with ht | ht
              · exact i2 t ht
              · rw [List.mem_singleton] at ht; subst ht; exact hr j
            · exact i2 t ht
          · rw [List.length_append, List.length_singleton]; unfold struck; omega
          · split
            · rw [List.length_append, List.length_singleton]; omega
            · omega

/-- Where request j lies, or nil behind the last. -/
def nxt (Nd : Nat → Nat) (n j : Nat) : Value := if j < n then .pointer (some ⟨Nd j, 0, none⟩) else .pointer none

/-- The store that letThrough reads. -/
structure Store (w : World) (T0 R gb n xi qpos : Nat) (Nd : Nat → Nat) (rq : Nat → Req) (G : Int) : Prop where
  age : ∀ i, i < 8 → w.cell? ⟨T0 + i, 1, none⟩ = some (.int .i64 (i : Int))
  blkT : ∀ i, i < 8 → ∃ c, w.heap[T0 + i]? = some (.cells c 33 (0, 0))
  wait : w.cell? ⟨T0 + xi, 4, none⟩ = some (.pointer (some ⟨Nd qpos, 0, none⟩))
  blkN : ∀ j, j < n → ∃ c, w.heap[Nd j]? = some (.cells c 61 (0, 0))
  n0 : ∀ j, j < n → w.cell? ⟨Nd j, 0, none⟩ = some (.pointer (some ⟨T0 + (rq j).t, 0, none⟩))
  n1 : ∀ j, j < n → w.cell? ⟨Nd j, 1, none⟩ = some (.pointer (some ⟨R, 0, none⟩))
  n2 : ∀ j, j < n → w.cell? ⟨Nd j, 2, none⟩ = some (.int .u8 (rq j).m)
  n5 : ∀ j, j < n → w.cell? ⟨Nd j, 5, none⟩ = some (nxt Nd n (j + 1))
  gbc : w.cell? ⟨gb, 0, none⟩ = some (.int .u8 G)
  front : w.cell? ⟨R, 5, none⟩ = some (.pointer (some ⟨Nd 0, 0, none⟩))

theorem Store.keep {w w' : World} {T0 R gb n xi qpos : Nat} {Nd : Nat → Nat} {rq : Nat → Req} {G : Int} (h : Store w T0 R gb n xi qpos Nd rq G) (hb : Below w.heap.size w w') : Store w' T0 R gb n xi qpos Nd rq G := by
  have kc : ∀ {b o : Nat} {v : Value}, w.cell? ⟨b, o, none⟩ = some v → w'.cell? ⟨b, o, none⟩ = some v := fun hc => cell_keep hb (lt_of_cell hc) hc
  refine ⟨fun i hi => kc (h.age i hi), fun i hi => ?_, kc h.wait, fun j hj => ?_, fun j hj => kc (h.n0 j hj), fun j hj => kc (h.n1 j hj), fun j hj => kc (h.n2 j hj), fun j hj => kc (h.n5 j hj), kc h.gbc, kc h.front⟩
  · obtain ⟨c, hc⟩ := h.blkT i hi
    exact ⟨c, (hb.block _ (Array.getElem?_eq_some_iff.1 hc).1).trans hc⟩
  · obtain ⟨c, hc⟩ := h.blkN j hj
    exact ⟨c, (hb.block _ (Array.getElem?_eq_some_iff.1 hc).1).trans hc⟩

theorem Store.isT {w : World} {T0 R gb n xi qpos : Nat} {Nd : Nat → Nat} {rq : Nat → Req} {G : Int} (h : Store w T0 R gb n xi qpos Nd rq G) {i : Nat} (hi : i < 8) : IsBlk w (T0 + i) := by
  obtain ⟨c, hc⟩ := h.blkT i hi
  exact ⟨c, 33, hc⟩
theorem Store.isN {w : World} {T0 R gb n xi qpos : Nat} {Nd : Nat → Nat} {rq : Nat → Req} {G : Int} (h : Store w T0 R gb n xi qpos Nd rq G) {j : Nat} (hj : j < n) : IsBlk w (Nd j) := by
  obtain ⟨c, hc⟩ := h.blkN j hj
  exact ⟨c, 61, hc⟩

end Go.Proofs.Ybulkecuo.B
