import Derived.Test.YbulkectmFmtAGraph
namespace Go.Proofs.YbulkectmFmt.A
set_option linter.unusedVariables false
set_option linter.unusedSimpArgs false

def upd {α : Type} (f : Nat → α) (i : Nat) (x : α) : Nat → α := fun j => if j = i then x else f j
theorem upd_same {α : Type} (f : Nat → α) (i : Nat) (x : α) : upd f i x i = x := by simp [upd]
theorem upd_other {α : Type} (f : Nat → α) {i j : Nat} (x : α) (h : j ≠ i) : upd f i x j = f j := by simp [upd, h]

/-- A propagation under way. -/
structure FS where
  rank : Nat → Int
  order : List Nat
  acc : Nat → Nat

def fireS (s : FS) (v : Nat) : FS := ⟨upd s.rank v s.order.length, s.order ++ [v], s.acc⟩
def edgeS (D : GD) (s : FS) (e : Nat) : FS :=
  if (decide (0 ≤ s.rank (D.dst e)) || decide (D.q e < 2)) = true then s
  else if D.wt (D.dst e) ≤ s.acc (D.dst e) + 1 then fireS ⟨s.rank, s.order, upd s.acc (D.dst e) (s.acc (D.dst e) + 1)⟩ (D.dst e)
  else ⟨s.rank, s.order, upd s.acc (D.dst e) (s.acc (D.dst e) + 1)⟩
def seedS (seed : Nat → Bool) (s : FS) (v : Nat) : FS := if seed v = true then fireS s v else s
def stK (seed : Nat → Bool) : Nat → FS
  | 0 => ⟨fun _ => -1, [], fun _ => 0⟩
  | k + 1 => seedS seed (stK seed k) k
def roundS (D : GD) (s : FS) (i : Nat) : FS := match s.order[i]? with
  | some u => (outL D u).foldl (edgeS D) s
  | none => s
def st (D : GD) (seed : Nat → Bool) : Nat → FS
  | 0 => stK seed D.n
  | i + 1 => roundS D (st D seed i) i

theorem nodup_len : ∀ (n : Nat) (l : List Nat), l.Nodup → (∀ v ∈ l, v < n) → l.length ≤ n
  | 0, l, _, h => by
    cases l with
    | nil => simp
    | cons a l => exact absurd (h a (by simp)) (by omega)
  | n + 1, l, hd, h => by
    have h1 := nodup_len n (l.erase n) (hd.erase n) (fun v hv => by
      have h2 := (hd.mem_erase_iff).1 hv
      have := h v h2.2
      omega)
    rcases Classical.em (n ∈ l) with hm | hm
    · rw [List.length_erase_of_mem hm] at h1; omega
    · rw [List.erase_of_not_mem hm] at h1; omega

/-- What holds of a propagation. -/
structure FInv (D : GD) (s : FS) : Prop where
  nd : s.order.Nodup
  lt : ∀ v ∈ s.order, v < D.n
  rk : ∀ v, 0 ≤ s.rank v ↔ v ∈ s.order
  ix : ∀ (i v : Nat), s.order[i]? = some v → s.rank v = (i : Int)
  ac : ∀ v, v < D.n → s.rank v < 0 → s.acc v < D.wt v
theorem FInv.len {D : GD} {s : FS} (h : FInv D s) : s.order.length ≤ D.n := nodup_len D.n s.order h.nd h.lt

theorem FInv.fire {D : GD} {s : FS} (h : FInv D s) {v : Nat} (hv : v < D.n) (hr : s.rank v < 0) (acc : Nat → Nat) (ha : ∀ u, u < D.n → u ≠ v → s.rank u < 0 → acc u < D.wt u) : FInv D (fireS ⟨s.rank, s.order, acc⟩ v) := by
  have hnm : v ∉ s.order := fun hm => by have := (h.rk v).2 hm; omega
  refine ⟨?_, ?_, ?_, ?_, ?_⟩
  · show (s.order ++ [v]).Nodup
    rw [List.nodup_append]
    refine ⟨h.nd, by simp, fun a ha2 b hb e => ?_⟩
    simp at hb
    subst hb
    subst e
    exact hnm ha2
  · intro u hu
    rcases List.mem_append.1 hu with hu | hu
    · exact h.lt u hu
    · simp at hu; subst hu; exact hv
  · intro u
    show 0 ≤ upd s.rank v (s.order.length : Int) u ↔ u ∈ s.order ++ [v]
    by_cases e : u = v
    · subst e; rw [upd_same]; simp
    · rw [upd_other _ _ e, h.rk u]; simp [e]
  · intro i u hi
    have hi' : (s.order ++ [v])[i]? = some u := hi
    show upd s.rank v (s.order.length : Int) u = (i : Int)
    by_cases e : i < s.order.length
    · rw [List.getElem?_append_left e] at hi'
      rw [upd_other _ _ (fun e2 => hnm (by rw [← e2]; exact List.mem_of_getElem? hi'))]
      exact h.ix i u hi'
    · rw [List.getElem?_append_right (by omega)] at hi'
      have e1 : i - s.order.length = 0 := by
        have := (List.getElem?_eq_some_iff.1 hi').1
        simp at this
        omega
      rw [e1] at hi'
      simp at hi'
      subst hi'
      rw [upd_same]
      omega
  · intro u hu hru
    have hru' : upd s.rank v (s.order.length : Int) u < 0 := hru
    by_cases e : u = v
    · subst e; rw [upd_same] at hru'; omega
    · rw [upd_other _ _ e] at hru'
      exact ha u hu e hru'

theorem FInv.edge {D : GD} (hD : D.Ok) {s : FS} (h : FInv D s) {e : Nat} (he : e < D.m) : FInv D (edgeS D s e) := by
  unfold edgeS
  split
  · exact h
  · rename_i hc
    simp at hc
    have hd := hD.dl e he
    split
    · rename_i hw
      refine h.fire hd (by omega) _ (fun u hu hne hr => ?_)
      show upd s.acc _ _ u < _
      rw [upd_other _ _ hne]
      exact h.ac u hu hr
    · rename_i hw
      refine ⟨h.nd, h.lt, h.rk, h.ix, fun u hu hr => ?_⟩
      show upd s.acc _ _ u < _
      by_cases e1 : u = D.dst e
      · subst e1; rw [upd_same]; omega
      · rw [upd_other _ _ e1]; exact h.ac u hu hr

theorem FInv.foldE {D : GD} (hD : D.Ok) : ∀ (l : List Nat), (∀ e ∈ l, e < D.m) → ∀ s, FInv D s → FInv D (l.foldl (edgeS D) s)
  | [], _, s, h => h
  | e :: l, hl, s, h => FInv.foldE hD l (fun x hx => hl x (by simp [hx])) _ (h.edge hD (hl e (by simp)))

theorem FInv.stK {D : GD} (hD : D.Ok) (seed : Nat → Bool) : ∀ k, k ≤ D.n → FInv D (stK seed k) ∧ (∀ v, k ≤ v → (A.stK seed k).rank v = -1) ∧ (∀ v, (A.stK seed k).acc v = 0)
  | 0, _ => ⟨⟨List.nodup_nil, by simp [A.stK], by intro v; simp [A.stK], by intro i v hi; simp [A.stK] at hi, fun v hv _ => by have := (hD.wl v hv).1; simp [A.stK]; omega⟩, fun v _ => rfl, fun v => rfl⟩
  | k + 1, hk => by
    obtain ⟨h, hr, ha⟩ := FInv.stK hD seed k (by omega)
    have key : ∀ s : FS, FInv D s → (∀ v, k ≤ v → s.rank v = -1) → (∀ v, s.acc v = 0) → FInv D (seedS seed s k) ∧ (∀ v, k + 1 ≤ v → (seedS seed s k).rank v = -1) ∧ (∀ v, (seedS seed s k).acc v = 0) := by
      intro s h hr ha
      unfold seedS
      split
      · refine ⟨h.fire (by omega) (by rw [hr k (Nat.le_refl _)]; omega) _ (fun u hu _ hru => h.ac u hu hru), fun v hv => ?_, fun v => ha v⟩
        show upd _ _ _ v = -1
        rw [upd_other _ _ (by omega)]
        exact hr v (by omega)
      · exact ⟨h, fun v hv => hr v (by omega), ha⟩
    exact key _ h hr ha

theorem FInv.round {D : GD} (hD : D.Ok) {s : FS} (h : FInv D s) (i : Nat) : FInv D (roundS D s i) := by
  unfold roundS
  split
  · exact FInv.foldE hD _ (fun e he => (mem_outL.1 he).1) _ h
  · exact h
theorem FInv.st {D : GD} (hD : D.Ok) (seed : Nat → Bool) : ∀ i, FInv D (st D seed i)
  | 0 => (FInv.stK hD seed D.n (Nat.le_refl _)).1
  | i + 1 => (FInv.st hD seed i).round hD i

/-- Where nothing is left to deliver the state stands. -/
theorem st_stable (D : GD) (seed : Nat → Bool) (i : Nat) (h : (st D seed i).order.length ≤ i) : ∀ k, st D seed (i + k) = st D seed i
  | 0 => rfl
  | k + 1 => by
    have ih := st_stable D seed i h k
    show roundS D (st D seed (i + k)) (i + k) = _
    rw [ih]
    unfold roundS
    rw [List.getElem?_eq_none (by omega)]
/-- What the propagation comes to. -/
def fin (D : GD) (seed : Nat → Bool) : FS := st D seed D.n
theorem fin_of {D : GD} (hD : D.Ok) (seed : Nat → Bool) (i : Nat) (h : (st D seed i).order.length ≤ i) (hi : i ≤ D.n) : st D seed i = fin D seed := by
  have := st_stable D seed i h (D.n - i)
  rw [show i + (D.n - i) = D.n by omega] at this
  exact this.symm

end Go.Proofs.YbulkectmFmt.A
