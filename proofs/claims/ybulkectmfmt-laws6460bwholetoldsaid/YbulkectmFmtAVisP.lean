import Derived.Test.YbulkectmFmtADfs
namespace Go.Proofs.YbulkectmFmt.A
set_option linter.unusedVariables false
set_option linter.unusedSimpArgs false

theorem nodup_inj {l : List Nat} (h : l.Nodup) {i j : Nat} (hi : i < l.length) (hj : j < l.length) (e : l[i] = l[j]) : i = j := by
  have h1 := List.pairwise_iff_getElem.1 h
  rcases Nat.lt_trichotomy i j with hlt | rfl | hlt
  · exact absurd e (h1 i j hi hj hlt)
  · rfl
  · exact absurd e.symm (h1 j i hj hi hlt)

/-- The candidates among the first k edges. -/
def candK (D : GD) (seed : Nat → Bool) (rank : Nat → Int) (R : Nat → Bool) (v k : Nat) : List Nat := ((List.range k).filter fun e => D.dst e == v).filter fun e => R (D.src e) && okE D seed rank e
section
variable {D : GD} {seed : Nat → Bool} {rank : Nat → Int} {R : Nat → Bool} {v : Nat}
theorem candK_all : candK D seed rank R v D.m = candE D seed rank R v := rfl
theorem candK_succ (k : Nat) : candK D seed rank R v (k + 1) = candK D seed rank R v k ++ (if (D.dst k == v) = true ∧ R (D.src k) = true ∧ okE D seed rank k = true then [k] else []) := by
  unfold candK
  rw [List.range_succ, List.filter_append, List.filter_append]
  congr 1
  cases h1 : (D.dst k == v) <;> cases h2 : R (D.src k) <;> cases h3 : okE D seed rank k <;> simp [List.filter_cons, h1, h2, h3]
theorem candK_len (k : Nat) : (candK D seed rank R v k).length ≤ k := by
  unfold candK
  refine Nat.le_trans (List.length_filter_le _ _) (Nat.le_trans (List.length_filter_le _ _) ?_)
  simp
end

/-- The best of the first k that are not used. -/
def Best (D : GD) (rank : Nat → Int) (cand : List Nat) (used : Nat → Bool) (k : Nat) (b : Option Nat) : Prop :=
  (b = none ∧ ∀ c, c < k → used c = true) ∨ (∃ i, b = some i ∧ i < k ∧ used i = false ∧ ∀ c, c < k → used c = false → ltE D rank (cand.getD c 0) (cand.getD i 0) = false)

section
variable {D : GD} {rank : Nat → Int} {cand : List Nat} {used : Nat → Bool}
theorem best_zero : Best D rank cand used 0 none := .inl ⟨rfl, fun c hc => absurd hc (by omega)⟩
theorem best_used {k : Nat} {b : Option Nat} (h : Best D rank cand used k b) (hu : used k = true) : Best D rank cand used (k + 1) b := by
  rcases h with ⟨rfl, h⟩ | ⟨i, rfl, hi, h1, h2⟩
  · refine .inl ⟨rfl, fun c hc => ?_⟩
    rcases Nat.lt_succ_iff_lt_or_eq.1 hc with hc | rfl
    · exact h c hc
    · exact hu
  · refine .inr ⟨i, rfl, by omega, h1, fun c hc hcu => ?_⟩
    rcases Nat.lt_succ_iff_lt_or_eq.1 hc with hc | rfl
    · exact h2 c hc hcu
    · rw [hu] at hcu; cases hcu
theorem best_first {k : Nat} (h : Best D rank cand used k none) (hu : used k = false) : Best D rank cand used (k + 1) (some k) := by
  rcases h with ⟨_, h⟩ | ⟨i, e, _⟩
  · refine .inr ⟨k, rfl, by omega, hu, fun c hc hcu => ?_⟩
    rcases Nat.lt_succ_iff_lt_or_eq.1 hc with hc | rfl
    · rw [h c hc] at hcu; cases hcu
    · rw [ltE_false]; omega
  · cases e
theorem best_worse {k i : Nat} (h : Best D rank cand used k (some i)) (hu : used k = false) (hl : ltE D rank (cand.getD k 0) (cand.getD i 0) = false) : Best D rank cand used (k + 1) (some i) := by
  rcases h with ⟨e, _⟩ | ⟨i', e, hi, h1, h2⟩
  · cases e
  · cases e
    refine .inr ⟨i, rfl, by omega, h1, fun c hc hcu => ?_⟩
    rcases Nat.lt_succ_iff_lt_or_eq.1 hc with hc | rfl
    · exact h2 c hc hcu
    · exact hl
theorem best_better {k i : Nat} (h : Best D rank cand used k (some i)) (hu : used k = false) (hl : ltE D rank (cand.getD k 0) (cand.getD i 0) = true) : Best D rank cand used (k + 1) (some k) := by
  rcases h with ⟨e, _⟩ | ⟨i', e, hi, h1, h2⟩
  · cases e
  · cases e
    refine .inr ⟨k, rfl, by omega, hu, fun c hc hcu => ?_⟩
    rcases Nat.lt_succ_iff_lt_or_eq.1 hc with hc | rfl
    · have h3 := h2 c hc hcu
      rw [ltE_false] at h3 ⊢
      rw [ltE_iff] at hl
      omega
    · rw [ltE_false]; omega
theorem best_lt {k i : Nat} (h : Best D rank cand used k (some i)) : i < k := by
  rcases h with ⟨e, _⟩ | ⟨i', e, hi, _⟩
  · cases e
  · cases e; exact hi
end

/-- What is used when t were taken. -/
def usedAt (cand pref : List Nat) (t c : Nat) : Bool := decide (cand.getD c 0 ∈ pref.take t)
theorem getD_mem {l : List Nat} {c : Nat} (h : c < l.length) : l.getD c 0 ∈ l := by
  rw [List.getD_eq_getElem?_getD, List.getElem?_eq_getElem h]
  exact List.getElem_mem h
theorem getD_get {l : List Nat} {c : Nat} (h : c < l.length) : l.getD c 0 = l[c] := by
  rw [List.getD_eq_getElem?_getD, List.getElem?_eq_getElem h]; rfl
theorem mem_getD {l : List Nat} {x : Nat} (h : x ∈ l) : ∃ c, c < l.length ∧ l.getD c 0 = x := by
  obtain ⟨c, hc, e⟩ := List.getElem_of_mem h
  exact ⟨c, hc, by rw [getD_get hc, e]⟩

section
variable {D : GD} {seed : Nat → Bool} {rank : Nat → Int} {R : Nat → Bool} {v : Nat}
theorem best_end (hD : D.Ok) (hinj : ∀ x y, 0 ≤ rank x → rank x = rank y → x = y) {t : Nat} {b : Option Nat} (ht : t < (candE D seed rank R v).length)
    (h : Best D rank (candE D seed rank R v) (usedAt (candE D seed rank R v) (prefL D seed rank R v) t) (candE D seed rank R v).length b) :
    ∃ i, b = some i ∧ i < (candE D seed rank R v).length ∧ (candE D seed rank R v).getD i 0 = (prefL D seed rank R v).getD t 0 := by
  have hp := prefL_perm (D := D) (seed := seed) (rank := rank) (R := R) (v := v)
  have hlen := hp.length_eq
  have hnd : (prefL D seed rank R v).Nodup := hp.nodup_iff.2 candE_nodup
  have hso := prefL_sorted (D := D) (seed := seed) (rank := rank) (R := R) (v := v)
  have hmm : ∀ x, x ∈ prefL D seed rank R v ↔ x ∈ candE D seed rank R v := fun x => hp.mem_iff
  have hone : ∀ x y, x ∈ candE D seed rank R v → y ∈ candE D seed rank R v → ltE D rank x y = false → ltE D rank y x = false → x = y := fun x y hx hy h1 h2 => cand_one hD hinj hx hy h1 h2
  revert h ht
  generalize prefL D seed rank R v = pr at *
  generalize candE D seed rank R v = ca at *
  intro ht h
  have htp : t < pr.length := by omega
  have hnot : pr[t] ∉ pr.take t := by
    intro hm
    obtain ⟨j, hj, e⟩ := List.getElem_of_mem hm
    rw [List.length_take] at hj
    rw [List.getElem_take] at e
    have := nodup_inj hnd _ _ e
    omega
  obtain ⟨c0, hc0, e0⟩ := mem_getD ((hmm _).1 (List.getElem_mem htp))
  have hu0 : usedAt ca pr t c0 = false := by unfold usedAt; rw [e0]; simpa using hnot
  rcases h with ⟨_, h⟩ | ⟨i, rfl, hi, h1, h2⟩
  · rw [h c0 hc0] at hu0; cases hu0
  · refine ⟨i, rfl, hi, ?_⟩
    have h3 := h2 c0 hc0 hu0
    rw [e0] at h3
    have him := getD_mem hi
    obtain ⟨j, hj, ej⟩ := List.getElem_of_mem ((hmm _).2 him)
    have hjt : t ≤ j := by
      rcases Nat.lt_or_ge j t with hlt | hge
      · exfalso
        have : ca.getD i 0 ∈ pr.take t := by
          rw [← ej, List.mem_take_iff_getElem]
          exact ⟨j, by omega, rfl⟩
        unfold usedAt at h1
        simp at h1
        simp at this
        exact h1 this
      · exact hge
    rw [getD_get htp]
    rcases Nat.lt_or_eq_of_le hjt with hlt | rfl
    · have h4 := (List.pairwise_iff_getElem.1 hso) t j htp hj hlt
      simp only [Bool.not_eq_true'] at h4
      rw [ej] at h4
      exact hone _ _ him ((hmm _).1 (List.getElem_mem htp)) h4 h3
    · exact ej.symm
theorem used_step {t i : Nat} (ht : t < (candE D seed rank R v).length) (hi : i < (candE D seed rank R v).length) (he : (candE D seed rank R v).getD i 0 = (prefL D seed rank R v).getD t 0) :
    ∀ c, c < (candE D seed rank R v).length → usedAt (candE D seed rank R v) (prefL D seed rank R v) (t + 1) c = upd (usedAt (candE D seed rank R v) (prefL D seed rank R v) t) i true c := by
  have hp := prefL_perm (D := D) (seed := seed) (rank := rank) (R := R) (v := v)
  have hlen := hp.length_eq
  have hnd := candE_nodup (D := D) (seed := seed) (rank := rank) (R := R) (v := v)
  revert ht hi he
  generalize prefL D seed rank R v = pr at *
  generalize candE D seed rank R v = ca at *
  intro ht hi he c hc
  have htp : t < pr.length := by omega
  unfold usedAt
  rw [List.take_succ_eq_append_getElem htp]
  rw [getD_get htp] at he
  by_cases e : c = i
  · subst e
    rw [upd_same, decide_eq_true_iff, List.mem_append, he]
    exact .inr (by simp)
  · rw [upd_other _ _ e]
    congr 1
    rw [List.mem_append, List.mem_singleton, ← he, eq_iff_iff]
    constructor
    · rintro (h | h)
      · exact h
      · exfalso
        rw [getD_get hc, getD_get hi] at h
        exact e (nodup_inj hnd _ _ h)
    · exact .inl
theorem used_zero (c : Nat) : usedAt (candE D seed rank R v) (prefL D seed rank R v) 0 c = false := by simp [usedAt]
end

section
variable {G : DG}
theorem tryL_len (f : (Nat → Bool) → Nat → Option (List Nat) × (Nat → Bool)) (N : Nat) (hf : ∀ E u p, (f E u).1 = some p → p ≠ [] ∧ p.length ≤ N) (v : Nat) : ∀ (es : List Nat) (E : Nat → Bool) (p : List Nat), (tryL G f v E es).1 = some p → p ≠ [] ∧ p.length ≤ N + 1
  | [], E, p, h => by simp [tryL] at h
  | e :: es, E, p, h => by
    rw [tryL_cons] at h
    split at h
    · exact tryL_len f N hf v es E p h
    · have h1 := hf E (G.src e)
      cases hr : f E (G.src e) with
      | mk r E1 =>
        rw [hr] at h h1
        cases r with
        | some q =>
          have h2 : some (q ++ [v]) = some p := h
          cases h2
          have := h1 q rfl
          simp
          omega
        | none => exact tryL_len f N hf v es E1 p h
theorem vis_len : ∀ (k : Nat) (E : Nat → Bool) (v : Nat) (p : List Nat), (vis G k E v).1 = some p → p ≠ [] ∧ p.length ≤ k
  | 0, _, _, p, h => by simp [vis] at h
  | k + 1, E, v, p, h => by
    unfold vis at h
    split at h
    · have h2 : some [v] = some p := h
      cases h2
      simp
    · exact tryL_len _ k (fun E u p hp => vis_len k E u p hp) v _ _ p h
theorem V_len (E : Nat → Bool) (v : Nat) (p : List Nat) (h : (V G E v).1 = some p) : p ≠ [] ∧ p.length ≤ G.n := vis_len G.n E v p h
end

end Go.Proofs.YbulkectmFmt.A
