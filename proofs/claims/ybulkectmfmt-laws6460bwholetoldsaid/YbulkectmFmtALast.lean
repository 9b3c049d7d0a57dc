import Derived.Test.YbulkectmFmtAVis
import Derived.Test.YbulkectmFmtAL2
namespace Go.Proofs.YbulkectmFmt.A
set_option linter.unusedVariables false
set_option linter.unusedSimpArgs false
open Go.RowKit Go.Deep

/-! ### The path's nodes -/
section
variable {G : DG}
theorem tryL_lt (f : (Nat → Bool) → Nat → Option (List Nat) × (Nat → Bool)) (v : Nat) (hv : v < G.n) : ∀ (es : List Nat) (E : Nat → Bool), (∀ e ∈ es, ∀ E p, (f E (G.src e)).1 = some p → ∀ x ∈ p, x < G.n) → ∀ (p : List Nat), (tryL G f v E es).1 = some p → ∀ x ∈ p, x < G.n
  | [], E, _, p, h => by simp [tryL] at h
  | e :: es, E, hf, p, h => by
    rw [tryL_cons] at h
    have ih := fun E' => tryL_lt f v hv es E' (fun e' he' => hf e' (List.mem_cons_of_mem _ he'))
    split at h
    · exact ih E p h
    · have h1 := hf e (by simp) E
      cases hr : f E (G.src e) with
      | mk r E1 =>
        rw [hr] at h h1
        cases r with
        | some q =>
          have h2 : some (q ++ [v]) = some p := h
          cases h2
          intro x hx
          rcases List.mem_append.1 hx with hx | hx
          · exact h1 q rfl x hx
          · rw [List.mem_singleton.1 hx]; exact hv
        | none => exact ih E1 p h
theorem vis_lt (hG : G.Ok) : ∀ (k : Nat) (E : Nat → Bool) (v : Nat), v < G.n → ∀ (p : List Nat), (vis G k E v).1 = some p → ∀ x ∈ p, x < G.n
  | 0, _, _, _, p, h => by simp [vis] at h
  | k + 1, E, v, hv, p, h => by
    unfold vis at h
    split at h
    · have h2 : some [v] = some p := h
      cases h2
      intro x hx
      rw [List.mem_singleton.1 hx]; exact hv
    · exact tryL_lt _ v hv _ _ (fun e he E p hp => vis_lt hG k E _ (hG.sl v e he) p hp) p h
theorem V_lt (hG : G.Ok) (E : Nat → Bool) (v : Nat) (hv : v < G.n) (p : List Nat) (h : (V G E v).1 = some p) : ∀ x ∈ p, x < G.n := vis_lt hG G.n E v hv p h
end

/-! ### Every seed fires, and whatever is reached has fired -/
theorem mem_stK (seed : Nat → Bool) : ∀ k v, v < k → seed v = true → v ∈ (stK seed k).order
  | 0, v, h, _ => absurd h (by omega)
  | k + 1, v, h, hs => by
    show v ∈ (seedS seed (stK seed k) k).order
    unfold seedS
    rcases Nat.lt_succ_iff_lt_or_eq.1 h with h | rfl
    · have ih := mem_stK seed k v h hs
      split
      · exact List.mem_append.2 (.inl ih)
      · exact ih
    · rw [if_pos hs]
      exact List.mem_append.2 (.inr (List.mem_singleton_self _))
theorem edgeS_grows (D : GD) (s : FS) (e v : Nat) (h : v ∈ s.order) : v ∈ (edgeS D s e).order := by
  unfold edgeS
  split
  · exact h
  · split
    · exact List.mem_append.2 (.inl h)
    · exact h
theorem fold_grows (D : GD) : ∀ (l : List Nat) (s : FS) (v : Nat), v ∈ s.order → v ∈ (l.foldl (edgeS D) s).order
  | [], s, v, h => h
  | e :: l, s, v, h => fold_grows D l _ v (edgeS_grows D s e v h)
theorem round_grows (D : GD) (s : FS) (i v : Nat) (h : v ∈ s.order) : v ∈ (roundS D s i).order := by
  unfold roundS
  split
  · exact fold_grows D _ s v h
  · exact h
theorem st_grows (D : GD) (seed : Nat → Bool) (v : Nat) (h : v ∈ (st D seed 0).order) : ∀ k, v ∈ (st D seed k).order
  | 0 => h
  | k + 1 => round_grows D _ k v (st_grows D seed v h k)
theorem seed_rank {D : GD} (hD : D.Ok) (seed : Nat → Bool) (v : Nat) (hv : v < D.n) (hs : seed v = true) : 0 ≤ (fin D seed).rank v :=
  ((FInv.st hD seed D.n).rk v).2 (st_grows D seed v (mem_stK seed D.n v hv hs) D.n)
theorem reach_rank {D : GD} (hD : D.Ok) (seed : Nat → Bool) (x0 : Nat) (hx : x0 < D.n) (hs : seed x0 = true) : ∀ v, Reach D (okE D seed (fin D seed).rank) x0 v → 0 ≤ (fin D seed).rank v := by
  intro v h
  refine h (fun v => 0 ≤ (fin D seed).rank v) (seed_rank hD seed x0 hx hs) fun e he _ hok => ?_
  unfold okE at hok
  simp at hok
  exact hok.1.1.2

/-! ### The first of the order is the one of the smallest rank -/
theorem foldTo_spec (R : Nat → Bool) (rank : Nat → Int) : ∀ (ts : List Nat) (to : Option Nat),
    (foldTo R rank ts to = none → to = none ∧ ∀ t ∈ ts, R t = false) ∧
    (∀ u, foldTo R rank ts to = some u → (to = some u ∨ (u ∈ ts ∧ R u = true)) ∧ (∀ t ∈ ts, R t = true → rank u ≤ rank t) ∧ ∀ y, to = some y → rank u ≤ rank y)
  | [], to => by
    refine ⟨fun h => ⟨h, fun t ht => by cases ht⟩, fun u h => ?_⟩
    have h' : to = some u := h
    exact ⟨.inl h', fun t ht => (by cases ht), fun y hy => by rw [h'] at hy; cases hy; exact Int.le_refl _⟩
  | t :: ts, to => by
    have ih := foldTo_spec R rank ts (stepTo R rank to t)
    have e : foldTo R rank (t :: ts) to = foldTo R rank ts (stepTo R rank to t) := rfl
    rw [e]
    have hstep : (∀ y, to = some y → ∃ z, stepTo R rank to t = some z ∧ rank z ≤ rank y) ∧ (R t = true → ∃ z, stepTo R rank to t = some z ∧ rank z ≤ rank t) := by
      cases to with
      | none =>
        refine ⟨fun y hy => (by cases hy), fun h => ⟨t, ?_, Int.le_refl _⟩⟩
        show (if R t = true then some t else none) = some t
        rw [if_pos h]
      | some u =>
        have hs : stepTo R rank (some u) t = if R t = true ∧ rank t < rank u then some t else some u := rfl
        rw [hs]
        by_cases hc : R t = true ∧ rank t < rank u
        · rw [if_pos hc]
          exact ⟨fun y hy => by cases hy; exact ⟨t, rfl, by omega⟩, fun _ => ⟨t, rfl, Int.le_refl _⟩⟩
        · rw [if_neg hc]
          refine ⟨fun y hy => by cases hy; exact ⟨u, rfl, Int.le_refl _⟩, fun h => ⟨u, rfl, ?_⟩⟩
          have : ¬ rank t < rank u := fun h' => hc ⟨h, h'⟩
          omega
    refine ⟨fun h => ?_, fun u h => ?_⟩
    · obtain ⟨h1, h2⟩ := ih.1 h
      refine ⟨?_, fun x hx => ?_⟩
      · cases to with
        | none => rfl
        | some y => obtain ⟨z, hz, _⟩ := hstep.1 y rfl; rw [h1] at hz; cases hz
      · rcases List.mem_cons.1 hx with rfl | hx
        · cases hR : R x with
          | false => rfl
          | true => obtain ⟨z, hz, _⟩ := hstep.2 hR; rw [h1] at hz; cases hz
        · exact h2 x hx
    · obtain ⟨h1, h2, h3⟩ := ih.2 u h
      refine ⟨?_, fun x hx hRx => ?_, fun y hy => ?_⟩
      · rcases h1 with h1 | ⟨h1, h1'⟩
        · rcases stepTo_cases R rank to t with h' | h'
          · rw [h'] at h1
            cases h1
            cases to with
            | none =>
              have : (if R t = true then some t else none) = some t := h'
              by_cases hR : R t = true
              · exact .inr ⟨by simp, hR⟩
              · rw [if_neg hR] at this; cases this
            | some y =>
              have hs : (if R t = true ∧ rank t < rank y then some t else some y) = some t := h'
              by_cases hc : R t = true ∧ rank t < rank y
              · exact .inr ⟨by simp, hc.1⟩
              · rw [if_neg hc] at hs; exact .inl hs
          · rw [h'] at h1; exact .inl h1
        · exact .inr ⟨List.mem_cons_of_mem _ h1, h1'⟩
      · rcases List.mem_cons.1 hx with rfl | hx
        · obtain ⟨z, hz, hz'⟩ := hstep.2 hRx
          have := h3 z hz
          omega
        · exact h2 x hx hRx
      · obtain ⟨z, hz, hz'⟩ := hstep.1 y hy
        have := h3 z hz
        omega
theorem find_fold {D : GD} {s : FS} (hI : FInv D s) (R : Nat → Bool) (hR : ∀ v, R v = true → 0 ≤ s.rank v) (ts : List Nat) :
    (s.order.find? fun v => R v && inB ts v) = foldTo R s.rank ts none := by
  obtain ⟨h1, h2⟩ := foldTo_spec R s.rank ts none
  cases hf : foldTo R s.rank ts none with
  | none =>
    obtain ⟨_, h3⟩ := h1 hf
    refine List.find?_eq_none.2 fun v hv hp => ?_
    simp only [Bool.and_eq_true, inB, decide_eq_true_eq] at hp
    rw [h3 v hp.2] at hp
    cases hp.1
  | some u =>
    obtain ⟨h3, h4, _⟩ := h2 u hf
    rcases h3 with h3 | ⟨h3, h3'⟩
    · cases h3
    · have hu := (hI.rk u).1 (hR u h3')
      have hpu : (R u && inB ts u) = true := by simp [h3', inB, h3]
      cases hfi : s.order.find? (fun v => R v && inB ts v) with
      | none => exact absurd hpu (List.find?_eq_none.1 hfi u hu)
      | some v =>
        obtain ⟨hpv, l1, l2, hL, has⟩ := List.find?_eq_some_iff_append.1 hfi
        have hpv' : R v = true ∧ v ∈ ts := by simpa [inB] using hpv
        have hle := h4 v hpv'.2 hpv'.1
        have hrv : s.rank v = (l1.length : Int) := hI.ix l1.length v (by rw [hL]; simp)
        obtain ⟨i, hi, hix⟩ := List.getElem_of_mem hu
        have hru := hI.ix i u (by rw [List.getElem?_eq_getElem hi, hix])
        by_cases e : i = l1.length
        · have h5 : s.order[i]? = some v := by rw [e, hL]; simp
          rw [List.getElem?_eq_getElem hi, hix] at h5
          exact h5.symm
        · have hlt : i < l1.length := by omega
          have h5 : s.order[i]? = some l1[i] := by rw [hL, List.getElem?_append_left hlt, List.getElem?_eq_getElem hlt]
          rw [List.getElem?_eq_getElem hi, hix] at h5
          injection h5 with h5
          have := has l1[i] (List.getElem_mem hlt)
          rw [← h5, hpu] at this
          cases this

/-! ### The graph of the edges -/
def mkD (n : Nat) (E : List Ed) (wt : Nat → Nat) : GD := ⟨n, E.length, fun j => (E.getD j (0, 0, 1)).1, fun j => (E.getD j (0, 0, 1)).2.1, fun j => (E.getD j (0, 0, 1)).2.2, wt⟩
theorem getD_ed {E : List Ed} {j : Nat} (h : j < E.length) : E.getD j (0, 0, 1) = E[j] := by
  rw [List.getD_eq_getElem?_getD, List.getElem?_eq_getElem h]; rfl
theorem mkD_ok {n : Nat} {E : List Ed} {wt : Nat → Nat} (hn : n ≤ 300) (hl : E.length ≤ 2048) (h : EOk n E) (hw : ∀ v, v < n → 1 ≤ wt v ∧ wt v ≤ 3) : (mkD n E wt).Ok := by
  have hm : ∀ j (hj : j < E.length), E[j].1 < n ∧ E[j].2.1 < n ∧ 1 ≤ E[j].2.2 ∧ E[j].2.2 ≤ 4 := fun j hj => h.1 _ (List.getElem_mem hj)
  refine ⟨hn, hl, fun j hj => ?_, fun j hj => ?_, fun j hj => ?_, fun i j hi hj h1 h2 => ?_, hw⟩
  · have hj' : j < E.length := hj
    show (E.getD j (0, 0, 1)).1 < n
    rw [getD_ed hj']; exact (hm j hj').1
  · have hj' : j < E.length := hj
    show (E.getD j (0, 0, 1)).2.1 < n
    rw [getD_ed hj']; exact (hm j hj').2.1
  · have hj' : j < E.length := hj
    show 1 ≤ (E.getD j (0, 0, 1)).2.2 ∧ (E.getD j (0, 0, 1)).2.2 ≤ 4
    rw [getD_ed hj']; exact (hm j hj').2.2
  · have hi' : i < E.length := hi
    have hj' : j < E.length := hj
    have e1 : (E.getD i (0, 0, 1)).1 = (E.getD j (0, 0, 1)).1 := h1
    have e2 : (E.getD i (0, 0, 1)).2.1 = (E.getD j (0, 0, 1)).2.1 := h2
    rw [getD_ed hi', getD_ed hj'] at e1 e2
    exact h.2 i j hi' hj' e1 e2

end Go.Proofs.YbulkectmFmt.A
