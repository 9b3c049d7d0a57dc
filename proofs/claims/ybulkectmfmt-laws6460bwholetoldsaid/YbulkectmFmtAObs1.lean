import Derived.Test.YbulkectmFmtAPlaces
import Derived.Test.YbulkectmFmtAChain
namespace Go.Proofs.YbulkectmFmt.A
set_option linter.unusedVariables false
set_option linter.unusedSimpArgs false
open Go.RowKit Go.Deep Go.Extern.Stop Go.Stop Go.Extern

/-- The observable node that Observe takes. -/
def stepTo (R : Nat → Bool) (rank : Nat → Int) (to : Option Nat) (t : Nat) : Option Nat := match to with
  | none => if R t = true then some t else none
  | some u => if R t = true ∧ rank t < rank u then some t else some u
def foldTo (R : Nat → Bool) (rank : Nat → Int) (ts : List Nat) (to : Option Nat) : Option Nat := ts.foldl (stepTo R rank) to
def toV : Option Nat → Value
  | none => .int .i64 (-1)
  | some t => .int .i64 (t : Int)

set_option maxRecDepth 1000000 in
set_option maxHeartbeats 8000000 in
theorem obsLoop (w : World) (D : GD) (hD : D.Ok) (fp SD RK : Nat) (seed : Nat → Bool) (rank : Nat → Int) (hF : Fir w fp SD RK D.n seed rank) (RB : Nat) (R : Nat → Bool) (hR : ∀ i, i < D.n → w.cell? ⟨RB, i, none⟩ = some (.bool (R i))) (TB : Nat) (ts : List Nat) (hts : ∀ t ∈ ts, t < D.n) (hlen : ts.length ≤ 2048) (hT : ∀ j (h : j < ts.length), w.cell? ⟨TB, j, none⟩ = some (.int .i64 ((ts[j] : Nat) : Int)))
    (Q : Exit → Act → World → Prop) (s0 s1 s2 s3 s4 s5 s6 s7 s8 s9 s10 s11 s12 s13 s17 s18 s19 s20 s21 s22 s23 s24 s25 s26 s27 s28 s29 s30 s31 s32 s33 s34 s35 s36 s37 s38 s39 s40 s41 s42 s43 s44 s45 s46 s47 s48 s49 s50 s51 s52 s53 s54 s55 s56 s60 s61 s62 s63 s64 s65 s66 s67 s68 s69 s70 s71 s72 s73 s74 s75 s76 s77 s78 s79 s80 s81 s82 s83 s84 s85 s86 s87 s88 s89 s90 s91 s92 s93 s94 s95 s96 : Value)
    (hQ : ∀ (v18 v59 v60 v61 v62 v63 v64 v65 v66 v67 v68 v69 v70 v71 v72 v73 v74 v75 v76 v77 v78 v79 v80 v81 v82 v83 v84 v85 v86 v87 v88 v89 : Value) (d : Nat), Q .normal ⟨#[s0, s1, s2, s3, s4, s5, s6, s7, s8, s9, s10, s11, s12, s13, .pointer (some ⟨fp, 0, none⟩), .slice (some ⟨RB, 0, none⟩) D.n D.n, toV (foldTo R rank ts none), s17, v18, s19, s20, s21, s22, s23, s24, s25, s26, s27, s28, s29, s30, s31, s32, s33, s34, s35, s36, s37, s38, s39, s40, s41, s42, s43, s44, s45, s46, s47, s48, s49, s50, s51, s52, s53, s54, s55, s56, .slice (some ⟨TB, 0, none⟩) ts.length ts.length, .int .i64 (ts.length : Int), v59, v60, v61, v62, v63, v64, v65, v66, v67, v68, v69, v70, v71, v72, v73, v74, v75, v76, v77, v78, v79, v80, v81, v82, v83, v84, v85, v86, v87, v88, v89, s90, s91, s92, s93, s94, s95, s96], []⟩ (w.drewN d)) :
    Code.wp Ybaf.prog ((Ybaf.f7.body.bind (findLoop 14)).getD .skip) (Exit.inBlock 0 Q) ⟨#[s0, s1, s2, s3, s4, s5, s6, s7, s8, s9, s10, s11, s12, s13, .pointer (some ⟨fp, 0, none⟩), .slice (some ⟨RB, 0, none⟩) D.n D.n, .int .i64 (-1), s17, s18, s19, s20, s21, s22, s23, s24, s25, s26, s27, s28, s29, s30, s31, s32, s33, s34, s35, s36, s37, s38, s39, s40, s41, s42, s43, s44, s45, s46, s47, s48, s49, s50, s51, s52, s53, s54, s55, s56, .slice (some ⟨TB, 0, none⟩) ts.length ts.length, .int .i64 (ts.length : Int), .int .i64 0, s60, s61, s62, s63, s64, s65, s66, s67, s68, s69, s70, s71, s72, s73, s74, s75, s76, s77, s78, s79, s80, s81, s82, s83, s84, s85, s86, s87, s88, s89, s90, s91, s92, s93, s94, s95, s96], []⟩ w := by
  conv => arg 2; whnf
  conv => arg 4; dsimp only
  go_loopw [16, 59] (fun tv x wr => ∃ k d : Nat, k ≤ ts.length ∧ x = .int .i64 k ∧ tv = toV (foldTo R rank (ts.take k) none) ∧ (∀ u, foldTo R rank (ts.take k) none = some u → u < D.n) ∧ wr = w.drewN d) (fun _ x _ => ts.length - (intOf x).toNat)
  case atStart => exact ⟨0, 0, Nat.zero_le _, rfl, rfl, fun u h => by simp [foldTo] at h, rfl⟩
  case round =>
    obtain ⟨k, d, hk, rfl, rfl, hlt0, rfl⟩ := hrel
    by_cases hlt : k < ts.length
    · have c0 := hT k hlt
      obtain ⟨t, ht⟩ : ∃ t, t = ts[k] := ⟨_, rfl⟩
      rw [← ht] at c0
      have htn : t < D.n := by rw [ht]; exact hts _ (List.getElem_mem hlt)
      have r1 := hR t htn
      have f2 := hF.c2
      have rt := hF.rk t htn
      have hfold : foldTo R rank (ts.take (k + 1)) none = stepTo R rank (foldTo R rank (ts.take k) none) t := by
        unfold foldTo
        rw [List.take_succ_eq_append_getElem hlt, List.foldl_append, ← ht]
        rfl
      have i0 : (0 : Int) ≤ (k : Int) := by omega
      have i1 : (k : Int) < (ts.length : Int) := by omega
      have t0 : (0 : Int) ≤ (t : Int) := by omega
      have t1 : (t : Int) < (D.n : Int) := by omega
      obtain ⟨Rt, hRt⟩ : ∃ b, b = R t := ⟨_, rfl⟩
      rw [← hRt] at r1
      obtain ⟨to, hto⟩ : ∃ to, to = foldTo R rank (ts.take k) none := ⟨_, rfl⟩
      rw [← hto] at hfold hlt0 ⊢
      have HFO := hid hfold
      have HRT := hid hRt
      have Htn := hid htn
      cases Rt with
      | false =>
        have HS : Hid (stepTo R rank to t = to) := hid (by
          unfold stepTo
          rw [← hRt]
          cases to <;> simp)
        have HLT := hid hlt0
        clear hfold hRt hto ht hts hT hR hF hlt0 htn
        go_wp2_with fail
        go_quiet (fail)
        go_wp2
        go_roundw
        case rel => exact ⟨k + 1, _, by omega, by go_num, by rw [HFO.out, HS.out], fun u hu => HLT.out u (by rw [HFO.out, HS.out] at hu; exact hu), rfl⟩
        case measure => simp [intOf]; omega
      | true =>
        cases to with
        | none =>
          have HS : Hid (stepTo R rank none t = some t) := hid (by unfold stepTo; rw [← hRt]; simp)
          clear hfold hRt hto ht hts hT hR hF hlt0 htn
          rw [show toV none = .int .i64 (-1) from rfl]
          go_wp2_with fail
          go_quiet (fail)
          go_wp2
          go_roundw
          case rel => exact ⟨k + 1, _, by omega, by go_num, by rw [HFO.out, HS.out]; rfl, fun u hu => by rw [HFO.out, HS.out] at hu; cases hu; exact Htn.out, rfl⟩
          case measure => simp [intOf]; omega
        | some u =>
          have hun := hlt0 u rfl
          have ru := hF.rk u hun
          have u0 : (0 : Int) ≤ (u : Int) := by omega
          have u1 : (u : Int) < (D.n : Int) := by omega
          have u2 : decide ((u : Int) < 0) = false := by simp
          rw [show toV (some u) = .int .i64 (u : Int) from rfl]
          by_cases hr : rank t < rank u
          · have HS : Hid (stepTo R rank (some u) t = some t) := hid (by unfold stepTo; rw [← hRt]; simp [hr])
            have hr1 : decide (rank t < rank u) = true := decide_eq_true hr
            obtain ⟨ra, hra⟩ : ∃ r, r = rank t := ⟨_, rfl⟩
            obtain ⟨rb, hrb⟩ : ∃ r, r = rank u := ⟨_, rfl⟩
            rw [← hra] at rt hr hr1
            rw [← hrb] at ru hr hr1
            clear hfold hRt hto ht hts hT hR hF hlt0 htn hra hrb
            go_wp2_with fail
            go_quiet (fail)
            go_wp2
            go_roundw
            case rel => exact ⟨k + 1, _, by omega, by go_num, by rw [HFO.out, HS.out]; rfl, fun u hu => by rw [HFO.out, HS.out] at hu; cases hu; exact Htn.out, rfl⟩
            case measure => simp [intOf]; omega
          · have HS : Hid (stepTo R rank (some u) t = some u) := hid (by show (if R t = true ∧ rank t < rank u then some t else some u) = some u; rw [if_neg (fun h => hr h.2)])
            have hr1 : decide (rank t < rank u) = false := decide_eq_false hr
            have Hun := hid hun
            obtain ⟨ra, hra⟩ : ∃ r, r = rank t := ⟨_, rfl⟩
            obtain ⟨rb, hrb⟩ : ∃ r, r = rank u := ⟨_, rfl⟩
            rw [← hra] at rt hr hr1
            rw [← hrb] at ru hr hr1
            clear hfold hRt hto ht hts hT hR hF hlt0 htn hra hrb
            go_wp2_with fail
            go_quiet (fail)
            go_wp2
            go_roundw
            case rel => exact ⟨k + 1, _, by omega, by go_num, by rw [HFO.out, HS.out]; rfl, fun u hu => by rw [HFO.out, HS.out] at hu; cases hu; exact Hun.out, rfl⟩
            case measure => simp [intOf]; omega
    · have e : k = ts.length := by omega
      subst e
      rw [List.take_length]
      clear hlt0 hT hts hR hF
      go_wp2
      exact hQ _ _ _ _ _ _ _ _ _ _ _ _ _ _ _ _ _ _ _ _ _ _ _ _ _ _ _ _ _ _ _ _ d

end Go.Proofs.YbulkectmFmt.A
