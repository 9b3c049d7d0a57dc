import Derived.Test.YbulkectmFmtAL12
namespace Go.Proofs.YbulkectmFmt.A
set_option linter.unusedVariables false
set_option linter.unusedSimpArgs false
set_option linter.unusedSectionVars false
open Go.RowKit Go.Deep

def updI {ι α : Type} [DecidableEq ι] (f : ι → α) (i : ι) (x : α) : ι → α := fun j => if j = i then x else f j
theorem updI_same {ι α : Type} [DecidableEq ι] (f : ι → α) (i : ι) (x : α) : updI f i x i = x := by simp [updI]
theorem updI_other {ι α : Type} [DecidableEq ι] (f : ι → α) {i j : ι} (x : α) (h : j ≠ i) : updI f i x j = f j := by simp [updI, h]

/-- A family of own rows, pairwise apart. -/
structure OF {ι : Type} (wr : World) (B : Nat) (I : ι → Prop) (ty : ι → TypeId) (sz : ι → Nat) (val : ι → Value) (n : ι → Nat) (xs : ι → List Value) : Prop where
  own : ∀ i, I i → wr.ownsRow B (ty i) (sz i) (val i) (n i) (xs i)
  ap : ∀ i j, I i → I j → i ≠ j → (val i).ownBlock = none ∨ (val i).ownBlock ≠ (val j).ownBlock

section
variable {ι : Type} [DecidableEq ι] {wr : World} {B : Nat} {I : ι → Prop} {ty : ι → TypeId} {sz : ι → Nat} {val : ι → Value} {n : ι → Nat} {xs : ι → List Value}

theorem OF.keep (h : OF wr B I ty sz val n xs) {w' : World} (hb : Below wr.heap.size wr w') : OF w' B I ty sz val n xs := ⟨fun i hi => own_keep hb (h.own i hi), h.ap⟩
theorem OF.congr (h : OF wr B I ty sz val n xs) {val' : ι → Value} {n' : ι → Nat} {xs' : ι → List Value} (e : ∀ i, I i → val i = val' i ∧ n i = n' i ∧ xs i = xs' i) : OF wr B I ty sz val' n' xs' := by
  refine ⟨fun i hi => ?_, fun i j hi hj hn => ?_⟩
  · obtain ⟨e1, e2, e3⟩ := e i hi
    rw [← e1, ← e2, ← e3]; exact h.own i hi
  · rw [← (e i hi).1, ← (e j hj).1]; exact h.ap i j hi hj hn
/-- A cell below the rows is written. -/
theorem OF.setCell (h : OF wr B I ty sz val n xs) {b o : Nat} (ha : b < B) (u : Value) : OF (wr.setCell ⟨b, o, none⟩ u) B I ty sz val n xs :=
  ⟨fun i hi => own_grown (grown_set (grown_refl wr (some b)) (.inr rfl) _) (h.own i hi) (.inr fun e => by have := ((h.own i hi).lt _ e).1; omega), h.ap⟩
/-- One row grows. -/
theorem OF.push (h : OF wr B I ty sz val n xs) (i : ι) (hi : I i) {W1 w1 : World} (hb : Below wr.heap.size wr W1) {nv : Value} {g : Nat} {us : List Value} (ho : w1.ownsRow B (ty i) (sz i) nv (n i + 1) (xs i ++ us)) (hnv : nv.ownBlock = some g) (hgr : W1.grownBy w1 (val i).ownBlock) (hat : (val i).ownBlock = some g ∨ wr.heap.size ≤ g) :
    OF w1 B I ty sz (updI val i nv) (updI n i (n i + 1)) (updI xs i (xs i ++ us)) := by
  refine ⟨fun j hj => ?_, fun j k hj hk hne => ?_⟩
  · by_cases e : j = i
    · subst e; rw [updI_same, updI_same, updI_same]; exact ho
    · rw [updI_other _ _ e, updI_other _ _ e, updI_other _ _ e]
      exact own_grown hgr (own_keep hb (h.own j hj)) (h.ap j i hj hi e)
  · have far : ∀ q, I q → q ≠ i → (val q).ownBlock ≠ some g := fun q hq hqi e => by
      rcases hat with h1 | h1
      · rcases h.ap q i hq hi hqi with h2 | h2
        · rw [h2] at e; cases e
        · exact h2 (e.trans h1.symm)
      · have := ((h.own q hq).lt g e).2
        omega
    by_cases e1 : j = i
    · have e2 : k ≠ i := fun e => hne (e1.trans e.symm)
      rw [e1, updI_same, updI_other _ _ e2, hnv]
      exact .inr fun e => far k hk e2 e.symm
    · rw [updI_other _ _ e1]
      by_cases e2 : k = i
      · rw [e2, updI_same, hnv]; exact .inr (far j hj e1)
      · rw [updI_other _ _ e2]; exact h.ap j k hj hk hne
end
/-- What a growth leaves, below the rows. -/
theorem below_push {B : Nat} {w wr W1 w1 : World} {v : Value} {b : Nat} {e : TypeId} {size n : Nat} {xs : List Value} (h : Below B w wr) (hs : B ≤ wr.heap.size) (hb : Below wr.heap.size wr W1) (hown : wr.ownsRow b e size v n xs) (hB : B ≤ b) (hgr : W1.grownBy w1 v.ownBlock) : Below B w w1 :=
  below_grown (h.trans (hb.mono hs)) (Nat.le_trans hs hb.size) hgr fun k hk => Nat.le_trans hB (hown.lt k hk).1

end Go.Proofs.YbulkectmFmt.A
