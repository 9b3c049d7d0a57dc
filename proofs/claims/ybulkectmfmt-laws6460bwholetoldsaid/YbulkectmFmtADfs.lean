import Derived.Test.YbulkectmFmtAPrefP
namespace Go.Proofs.YbulkectmFmt.A
set_option linter.unusedVariables false
set_option linter.unusedSimpArgs false

/-- The nodes that are not entered. -/
def cnt (n : Nat) (E : Nat → Bool) : Nat := ((List.range n).filter fun v => !E v).length
theorem cnt_le (n : Nat) (E : Nat → Bool) : cnt n E ≤ n := by
  have := List.length_filter_le (fun v => !E v) (List.range n)
  simpa [cnt] using this
theorem filter_len_le {l : List Nat} {p q : Nat → Bool} (h : ∀ x ∈ l, p x = true → q x = true) : (l.filter p).length ≤ (l.filter q).length := by
  induction l with
  | nil => simp
  | cons a l ih =>
    have ih' := ih (fun x hx => h x (by simp [hx]))
    have ha := h a (by simp)
    by_cases hp : p a = true
    · rw [List.filter_cons_of_pos hp, List.filter_cons_of_pos (ha hp)]
      simp; omega
    · rw [List.filter_cons_of_neg hp]
      by_cases hq : q a = true
      · rw [List.filter_cons_of_pos hq]; simp; omega
      · rw [List.filter_cons_of_neg hq]; exact ih'
theorem cnt_mono (n : Nat) {E E' : Nat → Bool} (h : ∀ v, E v = true → E' v = true) : cnt n E' ≤ cnt n E :=
  filter_len_le fun x _ hx => by
    simp at hx ⊢
    cases he : E x with
    | false => rfl
    | true => rw [h x he] at hx; cases hx
theorem cnt_enter (n : Nat) (E : Nat → Bool) (v : Nat) (hv : v < n) (hE : E v = false) : cnt n (upd E v true) + 1 ≤ cnt n E := by
  have key : ∀ l : List Nat, v ∈ l → l.Nodup → (l.filter fun x => !upd E v true x).length + 1 ≤ (l.filter fun x => !E x).length := by
    intro l
    induction l with
    | nil => intro h; cases h
    | cons a l ih =>
      intro hm hd
      rw [List.nodup_cons] at hd
      by_cases e : a = v
      · subst e
        rw [List.filter_cons_of_neg (by simp [upd]), List.filter_cons_of_pos (by simp [hE])]
        have : (l.filter fun x => !upd E a true x).length ≤ (l.filter fun x => !E x).length := filter_len_le fun x hx h => by
          have hne : x ≠ a := fun e => hd.1 (by rw [← e]; exact hx)
          rw [upd_other _ _ hne] at h
          exact h
        simp; omega
      · have hm' : v ∈ l := by
          rcases List.mem_cons.1 hm with h | h
          · exact absurd h.symm e
          · exact h
        have ih' := ih hm' hd.2
        by_cases ha : E a = false
        · rw [List.filter_cons_of_pos (by rw [upd_other _ _ e, ha]; rfl), List.filter_cons_of_pos (by rw [ha]; rfl)]
          simp; omega
        · have ha' : E a = true := by simpa using ha
          rw [List.filter_cons_of_neg (by rw [upd_other _ _ e, ha']; simp), List.filter_cons_of_neg (by rw [ha']; simp)]
          exact ih'
  exact key _ (List.mem_range.2 hv) List.nodup_range

/-- A walk back. -/
structure DG where
  n : Nat
  seed : Nat → Bool
  src : Nat → Nat
  pref : Nat → List Nat
structure DG.Ok (G : DG) : Prop where
  sl : ∀ v, ∀ e ∈ G.pref v, G.src e < G.n

def tryL (G : DG) (f : (Nat → Bool) → Nat → Option (List Nat) × (Nat → Bool)) (v : Nat) : (Nat → Bool) → List Nat → Option (List Nat) × (Nat → Bool)
  | E, [] => (none, E)
  | E, e :: es => if E (G.src e) = true then tryL G f v E es else match f E (G.src e) with
    | (some p, E1) => (some (p ++ [v]), E1)
    | (none, E1) => tryL G f v E1 es
def vis (G : DG) : Nat → (Nat → Bool) → Nat → Option (List Nat) × (Nat → Bool)
  | 0, E, _ => (none, E)
  | k + 1, E, v => if G.seed v = true then (some [v], upd E v true) else tryL G (vis G k) v (upd E v true) (G.pref v)

section
variable {G : DG}

theorem tryL_mono (f : (Nat → Bool) → Nat → Option (List Nat) × (Nat → Bool)) (hf : ∀ E u x, E x = true → (f E u).2 x = true) (v : Nat) : ∀ (es : List Nat) (E : Nat → Bool) (x : Nat), E x = true → (tryL G f v E es).2 x = true
  | [], E, x, h => h
  | e :: es, E, x, h => by
    unfold tryL
    split
    · exact tryL_mono f hf v es E x h
    · have h1 := hf E (G.src e) x h
      cases hr : f E (G.src e) with
      | mk r E1 =>
        rw [hr] at h1
        cases r with
        | some p => exact h1
        | none => exact tryL_mono f hf v es E1 x h1
theorem upd_mono (E : Nat → Bool) (v x : Nat) (h : E x = true) : upd E v true x = true := by
  unfold upd
  split
  · rfl
  · exact h
theorem vis_mono : ∀ (k : Nat) (E : Nat → Bool) (v x : Nat), E x = true → (vis G k E v).2 x = true
  | 0, _, _, _, h => h
  | k + 1, E, v, x, h => by
    unfold vis
    split
    · exact upd_mono E v x h
    · exact tryL_mono _ (vis_mono k) v _ _ x (upd_mono E v x h)

/-- Fuel enough is fuel enough. -/
theorem tryL_congr (hG : G.Ok) (f g : (Nat → Bool) → Nat → Option (List Nat) × (Nat → Bool)) (N : Nat) (hf : ∀ E u x, E x = true → (f E u).2 x = true) (hfg : ∀ E u, u < G.n → E u = false → cnt G.n E ≤ N → f E u = g E u) (v : Nat) : ∀ (es : List Nat) (E : Nat → Bool), (∀ e ∈ es, G.src e < G.n) → cnt G.n E ≤ N → tryL G f v E es = tryL G g v E es
  | [], E, _, _ => rfl
  | e :: es, E, hs, hc => by
    have ih := fun E' (h : cnt G.n E' ≤ N) => tryL_congr hG f g N hf hfg v es E' (fun x hx => hs x (by simp [hx])) h
    unfold tryL
    by_cases he : E (G.src e) = true
    · rw [if_pos he, if_pos he]
      exact ih E hc
    · rw [if_neg he, if_neg he]
      have h1 := hfg E (G.src e) (hs e (by simp)) (by simpa using he) hc
      have h2 := hf E (G.src e)
      rw [← h1]
      cases hr : f E (G.src e) with
      | mk r E1 =>
        rw [hr] at h2
        cases r with
        | some p => rfl
        | none => exact ih E1 (Nat.le_trans (cnt_mono _ h2) hc)
theorem vis_fuel (hG : G.Ok) : ∀ (N k k' : Nat) (E : Nat → Bool) (v : Nat), v < G.n → E v = false → cnt G.n E ≤ N → N ≤ k → N ≤ k' → vis G k E v = vis G k' E v
  | 0, k, k', E, v, hv, hE, hc, _, _ => by
    have := cnt_enter G.n E v hv hE
    omega
  | N + 1, 0, _, _, _, _, _, _, h, _ => absurd h (by omega)
  | N + 1, _ + 1, 0, _, _, _, _, _, _, h => absurd h (by omega)
  | N + 1, k + 1, k' + 1, E, v, hv, hE, hc, h1, h2 => by
    have hce := cnt_enter G.n E v hv hE
    unfold vis
    by_cases hs : G.seed v = true
    · rw [if_pos hs, if_pos hs]
    · rw [if_neg hs, if_neg hs]
      exact tryL_congr hG _ _ N (vis_mono k) (fun E' u hu hEu hcu => vis_fuel hG N k k' E' u hu hEu hcu (by omega) (by omega)) v _ _ (hG.sl v) (by omega)

/-- The walk, its fuel enough. -/
def V (G : DG) (E : Nat → Bool) (v : Nat) : Option (List Nat) × (Nat → Bool) := vis G G.n E v
theorem V_eq (hG : G.Ok) (E : Nat → Bool) (v : Nat) (hv : v < G.n) (hE : E v = false) : V G E v = if G.seed v = true then (some [v], upd E v true) else tryL G (V G) v (upd E v true) (G.pref v) := by
  unfold V
  cases hn : G.n with
  | zero => omega
  | succ k =>
    have hce := cnt_enter G.n E v hv hE
    have hcl := cnt_le G.n E
    show (if G.seed v = true then (some [v], upd E v true) else tryL G (vis G k) v (upd E v true) (G.pref v)) = _
    by_cases hs : G.seed v = true
    · rw [if_pos hs, if_pos hs]
    · rw [if_neg hs, if_neg hs]
      exact tryL_congr hG _ _ (cnt G.n (upd E v true)) (vis_mono k) (fun E' u hu hEu hcu => vis_fuel hG _ _ _ E' u hu hEu (Nat.le_refl _) (by omega) (by omega)) v _ _ (hG.sl v) (Nat.le_refl _)
theorem V_mono (E : Nat → Bool) (v x : Nat) (h : E x = true) : (V G E v).2 x = true := vis_mono G.n E v x h

/-- What a stack comes to. -/
def RES (G : DG) : (Nat → Bool) → List (Nat × List Nat) → Option (List Nat)
  | _, [] => none
  | E, (v, es) :: rest => if G.seed v = true then some (v :: rest.map Prod.fst) else match tryL G (V G) v E es with
    | (some p, _) => some (p ++ rest.map Prod.fst)
    | (none, E1) => RES G E1 rest

theorem RES_cons (E : Nat → Bool) (v : Nat) (es : List Nat) (rest : List (Nat × List Nat)) : RES G E ((v, es) :: rest) = if G.seed v = true then some (v :: rest.map Prod.fst) else match tryL G (V G) v E es with
    | (some p, _) => some (p ++ rest.map Prod.fst)
    | (none, E1) => RES G E1 rest := by rw [RES]
theorem tryL_cons (f : (Nat → Bool) → Nat → Option (List Nat) × (Nat → Bool)) (v : Nat) (E : Nat → Bool) (e : Nat) (es : List Nat) : tryL G f v E (e :: es) = if E (G.src e) = true then tryL G f v E es else match f E (G.src e) with
    | (some p, E1) => (some (p ++ [v]), E1)
    | (none, E1) => tryL G f v E1 es := by rw [tryL]

theorem RES_pop (E : Nat → Bool) (v : Nat) (rest : List (Nat × List Nat)) (hs : G.seed v = false) : RES G E ((v, []) :: rest) = RES G E rest := by
  rw [RES_cons, if_neg (by rw [hs]; simp)]
  rfl
theorem RES_skip (E : Nat → Bool) (v e : Nat) (es : List Nat) (rest : List (Nat × List Nat)) (hs : G.seed v = false) (he : E (G.src e) = true) : RES G E ((v, e :: es) :: rest) = RES G E ((v, es) :: rest) := by
  rw [RES_cons, RES_cons, if_neg (by rw [hs]; simp), if_neg (by rw [hs]; simp), tryL_cons, if_pos he]
theorem RES_push (hG : G.Ok) (E : Nat → Bool) (v e : Nat) (es : List Nat) (rest : List (Nat × List Nat)) (hs : G.seed v = false) (hu : G.src e < G.n) (he : E (G.src e) = false) :
    RES G E ((v, e :: es) :: rest) = RES G (upd E (G.src e) true) ((G.src e, G.pref (G.src e)) :: (v, es) :: rest) := by
  have hV := V_eq hG E (G.src e) hu he
  rw [RES_cons, RES_cons, if_neg (by rw [hs]; simp), tryL_cons, if_neg (by rw [he]; simp), hV]
  by_cases hsu : G.seed (G.src e) = true
  · rw [if_pos hsu, if_pos hsu]
    simp
  · rw [if_neg hsu, if_neg hsu]
    cases hr : tryL G (V G) (G.src e) (upd E (G.src e) true) (G.pref (G.src e)) with
    | mk r E1 =>
      cases r with
      | some p => simp
      | none =>
        show _ = RES G E1 ((v, es) :: rest)
        rw [RES_cons, if_neg (by rw [hs]; simp)]
theorem RES_start (hG : G.Ok) (v : Nat) (hv : v < G.n) : RES G (upd (fun _ => false) v true) [(v, G.pref v)] = (V G (fun _ => false) v).1 := by
  rw [V_eq hG (fun _ => false) v hv rfl, RES_cons]
  by_cases hs : G.seed v = true
  · rw [if_pos hs, if_pos hs]; rfl
  · rw [if_neg hs, if_neg hs]
    cases hr : tryL G (V G) v (upd (fun _ => false) v true) (G.pref v) with
    | mk r E1 =>
      cases r with
      | some p => simp
      | none => rfl
end

end Go.Proofs.YbulkectmFmt.A
