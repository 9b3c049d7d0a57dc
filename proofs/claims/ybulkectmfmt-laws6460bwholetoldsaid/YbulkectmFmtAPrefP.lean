import Derived.Test.YbulkectmFmtACmp
import Derived.Test.YbulkectmFmtAReachP
namespace Go.Proofs.YbulkectmFmt.A
set_option linter.unusedVariables false
set_option linter.unusedSimpArgs false

def ltE (D : GD) (rank : Nat → Int) (a b : Nat) : Bool := decide (cfE D rank a b < 0)
theorem ltE_iff (D : GD) (rank : Nat → Int) (a b : Nat) : ltE D rank a b = true ↔ D.q b < D.q a ∨ (D.q a = D.q b ∧ rank (D.src a) < rank (D.src b)) := by
  unfold ltE cfE cmpN cmpI
  rw [decide_eq_true_iff]
  by_cases h1 : D.q b < D.q a
  · simp [h1]
  · by_cases h2 : D.q a < D.q b
    · rw [if_neg h1, if_pos h2]
      simp
      omega
    · have e : D.q a = D.q b := by omega
      rw [if_neg h1, if_neg h2, if_neg (by simp)]
      by_cases h3 : rank (D.src a) < rank (D.src b)
      · simp [h3, e]
      · by_cases h4 : rank (D.src b) < rank (D.src a)
        · rw [if_neg h3, if_pos h4]; simp; omega
        · rw [if_neg h3, if_neg h4]; simp; omega
theorem ltE_false (D : GD) (rank : Nat → Int) (a b : Nat) : ltE D rank a b = false ↔ ¬ (D.q b < D.q a ∨ (D.q a = D.q b ∧ rank (D.src a) < rank (D.src b))) := by
  rw [← ltE_iff]
  simp

/-- The edges that may be taken back from v. -/
def candE (D : GD) (seed : Nat → Bool) (rank : Nat → Int) (R : Nat → Bool) (v : Nat) : List Nat := (inL D v).filter fun e => R (D.src e) && okE D seed rank e
/-- .. in the order of preference. -/
def prefL (D : GD) (seed : Nat → Bool) (rank : Nat → Int) (R : Nat → Bool) (v : Nat) : List Nat := (candE D seed rank R v).mergeSort fun a b => !ltE D rank b a

section
variable {D : GD} {seed : Nat → Bool} {rank : Nat → Int} {R : Nat → Bool} {v : Nat}
theorem mem_candE {e : Nat} : e ∈ candE D seed rank R v ↔ e < D.m ∧ D.dst e = v ∧ R (D.src e) = true ∧ okE D seed rank e = true := by
  unfold candE
  rw [List.mem_filter, mem_inL]
  simp [and_assoc]
theorem candE_nodup : (candE D seed rank R v).Nodup := (List.nodup_range.filter _).filter _
theorem prefL_perm : (prefL D seed rank R v).Perm (candE D seed rank R v) := List.mergeSort_perm _ _
theorem prefL_sorted : (prefL D seed rank R v).Pairwise fun a b => (!ltE D rank b a) = true := by
  refine List.pairwise_mergeSort ?_ ?_ _
  · intro a b c h1 h2
    simp only [Bool.not_eq_true', ltE_false] at h1 h2 ⊢
    omega
  · intro a b
    simp only [Bool.or_eq_true, Bool.not_eq_true', ltE_false]
    omega
/-- Two such edges that neither is preferred to the other are one. -/
theorem cand_one (hD : D.Ok) (hinj : ∀ x y, 0 ≤ rank x → rank x = rank y → x = y) {a b : Nat} (ha : a ∈ candE D seed rank R v) (hb : b ∈ candE D seed rank R v) (h1 : ltE D rank a b = false) (h2 : ltE D rank b a = false) : a = b := by
  rw [mem_candE] at ha hb
  rw [ltE_false] at h1 h2
  have hr : rank (D.src a) = rank (D.src b) := by omega
  have h0 : 0 ≤ rank (D.src a) := by have := ha.2.2.2; simp [okE] at this; exact this.1.1.1
  exact hD.un a b ha.1 hb.1 (hinj _ _ h0 hr) (ha.2.1.trans hb.2.1.symm)
/-- Whatever is a permutation of them and sorted is that list. -/
theorem prefL_unique (hD : D.Ok) (hinj : ∀ x y, 0 ≤ rank x → rank x = rank y → x = y) (L : List Nat) (hp : L.Perm (candE D seed rank R v)) (hs : L.Pairwise fun a b => ltE D rank b a = false) : L = prefL D seed rank R v := by
  refine List.Perm.eq_of_pairwise (le := fun a b => (!ltE D rank b a) = true) ?_ ?_ prefL_sorted (hp.trans prefL_perm.symm)
  · intro a b ha hb h1 h2
    simp at h1 h2
    exact cand_one hD hinj (hp.mem_iff.1 ha) (prefL_perm.mem_iff.1 hb) h2 h1
  · have e : (fun a b => ltE D rank b a = false) = (fun a b => (!ltE D rank b a) = true) := by
      funext a b
      simp
    rw [← e]; exact hs
theorem mem_prefL {e : Nat} : e ∈ prefL D seed rank R v ↔ e < D.m ∧ D.dst e = v ∧ R (D.src e) = true ∧ okE D seed rank e = true := by
  rw [prefL_perm.mem_iff, mem_candE]
theorem prefL_len : (prefL D seed rank R v).length ≤ D.m := by
  rw [prefL_perm.length_eq]
  exact Nat.le_trans (List.length_filter_le _ _) (inL_len D v)
end

end Go.Proofs.YbulkectmFmt.A
