import Derived.Test.YbulkectmFmtAPlain
namespace Go.Proofs.YbulkectmFmt.A
set_option linter.unusedVariables false
set_option linter.unusedSimpArgs false

/-- A breadth-first search under way. -/
structure RS where
  R : Nat → Bool
  q : List Nat
def stepR (D : GD) (ok : Nat → Bool) (s : RS) (e : Nat) : RS := if (!s.R (D.dst e) && ok e) = true then ⟨upd s.R (D.dst e) true, s.q ++ [D.dst e]⟩ else s
def rr (D : GD) (ok : Nat → Bool) (x0 : Nat) : Nat → RS
  | 0 => ⟨upd (fun _ => false) x0 true, [x0]⟩
  | i + 1 => match (rr D ok x0 i).q[i]? with
    | some u => (outL D u).foldl (stepR D ok) (rr D ok x0 i)
    | none => rr D ok x0 i

/-- A node that accepted edges lead to from x0. -/
def Reach (D : GD) (ok : Nat → Bool) (x0 : Nat) (v : Nat) : Prop := ∀ S : Nat → Prop, S x0 → (∀ e, e < D.m → S (D.src e) → ok e = true → S (D.dst e)) → S v
theorem Reach.base {D : GD} {ok : Nat → Bool} {x0 : Nat} : Reach D ok x0 x0 := fun S h0 _ => h0
theorem Reach.step {D : GD} {ok : Nat → Bool} {x0 : Nat} (e : Nat) (he : e < D.m) (h : Reach D ok x0 (D.src e)) (hok : ok e = true) : Reach D ok x0 (D.dst e) := fun S h0 h1 => h1 e he (h S h0 h1) hok

structure RInv (D : GD) (ok : Nat → Bool) (x0 : Nat) (s : RS) : Prop where
  nd : s.q.Nodup
  lt : ∀ v ∈ s.q, v < D.n
  mem : ∀ v, s.R v = true ↔ v ∈ s.q
  sound : ∀ v, s.R v = true → Reach D ok x0 v
  root : s.R x0 = true
theorem RInv.len {D : GD} {ok : Nat → Bool} {x0 : Nat} {s : RS} (h : RInv D ok x0 s) : s.q.length ≤ D.n := nodup_len D.n s.q h.nd h.lt

theorem RInv.edge {D : GD} (hD : D.Ok) {ok : Nat → Bool} {x0 : Nat} {s : RS} (h : RInv D ok x0 s) {e : Nat} (he : e < D.m) (hs : s.R (D.src e) = true) : RInv D ok x0 (stepR D ok s e) := by
  unfold stepR
  split
  · rename_i hc
    simp at hc
    have hnm : D.dst e ∉ s.q := fun hm => by have := (h.mem _).2 hm; rw [hc.1] at this; cases this
    refine ⟨?_, ?_, ?_, ?_, ?_⟩
    · show (s.q ++ [D.dst e]).Nodup
      rw [List.nodup_append]
      refine ⟨h.nd, by simp, fun a ha b hb e => ?_⟩
      simp at hb
      subst hb
      subst e
      exact hnm ha
    · intro v hv
      rcases List.mem_append.1 hv with hv | hv
      · exact h.lt v hv
      · simp at hv; subst hv; exact hD.dl e he
    · intro v
      show upd s.R (D.dst e) true v = true ↔ v ∈ s.q ++ [D.dst e]
      by_cases ev : v = D.dst e
      · subst ev; simp [upd]
      · rw [upd_other _ _ ev, h.mem v]; simp [ev]
    · intro v hv
      have hv' : upd s.R (D.dst e) true v = true := hv
      by_cases ev : v = D.dst e
      · subst ev; exact .step e he (h.sound _ hs) hc.2
      · rw [upd_other _ _ ev] at hv'; exact h.sound v hv'
    · show upd s.R (D.dst e) true x0 = true
      unfold upd
      split
      · rfl
      · exact h.root
  · exact h

theorem stepR_mono (D : GD) (ok : Nat → Bool) (s : RS) (e v : Nat) (h : s.R v = true) : (stepR D ok s e).R v = true := by
  unfold stepR
  split
  · show upd s.R _ true v = true
    unfold upd
    split
    · rfl
    · exact h
  · exact h
theorem foldR_mono (D : GD) (ok : Nat → Bool) : ∀ (l : List Nat) (s : RS) (v : Nat), s.R v = true → (l.foldl (stepR D ok) s).R v = true
  | [], _, _, h => h
  | e :: l, s, v, h => foldR_mono D ok l _ v (stepR_mono D ok s e v h)
theorem stepR_q (D : GD) (ok : Nat → Bool) (s : RS) (e i u : Nat) (h : s.q[i]? = some u) : (stepR D ok s e).q[i]? = some u := by
  unfold stepR
  split
  · show (s.q ++ [_])[i]? = some u
    rw [List.getElem?_append_left (List.getElem?_eq_some_iff.1 h).1]; exact h
  · exact h
theorem foldR_q (D : GD) (ok : Nat → Bool) : ∀ (l : List Nat) (s : RS) (i u : Nat), s.q[i]? = some u → (l.foldl (stepR D ok) s).q[i]? = some u
  | [], _, _, _, h => h
  | e :: l, s, i, u, h => foldR_q D ok l _ i u (stepR_q D ok s e i u h)
theorem stepR_len (D : GD) (ok : Nat → Bool) (s : RS) (e : Nat) : s.q.length ≤ (stepR D ok s e).q.length := by
  unfold stepR
  split
  · show _ ≤ (s.q ++ [_]).length
    rw [List.length_append]; omega
  · exact Nat.le_refl _
theorem foldR_len (D : GD) (ok : Nat → Bool) : ∀ (l : List Nat) (s : RS), s.q.length ≤ (l.foldl (stepR D ok) s).q.length
  | [], _ => Nat.le_refl _
  | e :: l, s => Nat.le_trans (stepR_len D ok s e) (foldR_len D ok l _)

theorem RInv.foldR {D : GD} (hD : D.Ok) {ok : Nat → Bool} {x0 u : Nat} : ∀ (l : List Nat), (∀ e ∈ l, e < D.m ∧ D.src e = u) → ∀ s, RInv D ok x0 s → s.R u = true → RInv D ok x0 (l.foldl (stepR D ok) s)
  | [], _, s, h, _ => h
  | e :: l, hl, s, h, hu => RInv.foldR hD l (fun x hx => hl x (by simp [hx])) _ (h.edge hD (hl e (by simp)).1 (by rw [(hl e (by simp)).2]; exact hu)) (stepR_mono D ok s e u hu)

theorem foldR_done (D : GD) (ok : Nat → Bool) : ∀ (l : List Nat) (s : RS) (e : Nat), e ∈ l → ok e = true → (l.foldl (stepR D ok) s).R (D.dst e) = true
  | x :: l, s, e, he, hok => by
    rcases List.mem_cons.1 he with rfl | he
    · refine foldR_mono D ok l _ _ ?_
      unfold stepR
      by_cases hr : s.R (D.dst e) = true
      · rw [if_neg (by simp [hr])]; exact hr
      · rw [if_pos (by simp [hr, hok])]
        exact upd_same _ _ _
    · exact foldR_done D ok l _ e he hok

theorem RInv.rr {D : GD} (hD : D.Ok) (ok : Nat → Bool) (x0 : Nat) (hx : x0 < D.n) : ∀ i, RInv D ok x0 (rr D ok x0 i) ∧ ∀ j u, j < i → (A.rr D ok x0 i).q[j]? = some u → ∀ e, e < D.m → D.src e = u → ok e = true → (A.rr D ok x0 i).R (D.dst e) = true
  | 0 => by
    refine ⟨⟨by simp [A.rr], ?_, ?_, ?_, (show upd (fun _ => false) x0 true x0 = true from upd_same _ _ _)⟩, fun j u hj => absurd hj (by omega)⟩
    · intro v hv; simp [A.rr] at hv; subst hv; exact hx
    · intro v
      show upd (fun _ => false) x0 true v = true ↔ v ∈ [x0]
      by_cases e : v = x0
      · subst e; simp [upd]
      · simp [upd, e]
    · intro v hv
      have hv' : upd (fun _ => false) x0 true v = true := hv
      by_cases e : v = x0
      · subst e; exact .base
      · simp [upd, e] at hv'
  | i + 1 => by
    obtain ⟨h, hc⟩ := RInv.rr hD ok x0 hx i
    have key : ∀ s : RS, RInv D ok x0 s → (∀ j u, j < i → s.q[j]? = some u → ∀ e, e < D.m → D.src e = u → ok e = true → s.R (D.dst e) = true) →
        RInv D ok x0 (match s.q[i]? with | some u => (outL D u).foldl (stepR D ok) s | none => s) ∧ ∀ j u, j < i + 1 → (match s.q[i]? with | some u => (outL D u).foldl (stepR D ok) s | none => s).q[j]? = some u → ∀ e, e < D.m → D.src e = u → ok e = true → (match s.q[i]? with | some u => (outL D u).foldl (stepR D ok) s | none => s).R (D.dst e) = true := by
      intro s h hc
      cases hq : s.q[i]? with
      | none =>
        refine ⟨h, fun j u hj hju => ?_⟩
        rcases Nat.lt_succ_iff_lt_or_eq.1 hj with hj | rfl
        · exact hc j u hj hju
        · have hju' : s.q[j]? = some u := hju
          rw [hq] at hju'; cases hju'
      | some u0 =>
        have hu0 : s.R u0 = true := (h.mem u0).2 (List.mem_of_getElem? hq)
        refine ⟨RInv.foldR hD _ (fun e he => mem_outL.1 he) s h hu0, fun j u hj hju e he hse hok => ?_⟩
        rcases Nat.lt_succ_iff_lt_or_eq.1 hj with hj | rfl
        · have hjs : j < s.q.length := by have := (List.getElem?_eq_some_iff.1 hq).1; omega
          have h1 : s.q[j]? = some s.q[j] := List.getElem?_eq_getElem hjs
          have h2 := foldR_q D ok (outL D u0) s j _ h1
          have hju' : ((outL D u0).foldl (stepR D ok) s).q[j]? = some u := hju
          rw [h2] at hju'
          cases hju'
          exact foldR_mono D ok _ _ _ (hc j _ hj h1 e he hse hok)
        · have h2 := foldR_q D ok (outL D u0) s j _ hq
          have hju' : ((outL D u0).foldl (stepR D ok) s).q[j]? = some u := hju
          rw [h2] at hju'
          cases hju'
          exact foldR_done D ok _ _ e (mem_outL.2 ⟨he, hse⟩) hok
    exact key _ h hc

/-- Where the queue is done what was reached is what accepted edges lead to. -/
theorem rr_reach {D : GD} (hD : D.Ok) (ok : Nat → Bool) (x0 : Nat) (hx : x0 < D.n) (i : Nat) (h : (rr D ok x0 i).q.length ≤ i) (v : Nat) : (rr D ok x0 i).R v = true ↔ Reach D ok x0 v := by
  obtain ⟨hI, hc⟩ := RInv.rr hD ok x0 hx i
  refine ⟨hI.sound v, fun hr => ?_⟩
  refine hr (fun v => (rr D ok x0 i).R v = true) hI.root fun e he ih hok => ?_
  have hm := (hI.mem _).1 ih
  obtain ⟨j, hj, hje⟩ := List.getElem_of_mem hm
  exact hc j _ (by omega) (by rw [List.getElem?_eq_getElem hj, hje]) e he rfl hok

end Go.Proofs.YbulkectmFmt.A
