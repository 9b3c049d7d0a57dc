import Derived.Test.YbulkectmFmtAProp
namespace Go.Proofs.YbulkectmFmt.A
set_option linter.unusedVariables false
set_option linter.unusedSimpArgs false
open Go.RowKit Go.Deep
attribute [local go_sem ↓] toBo41

def cmpN (a b : Nat) : Int := if a < b then -1 else if b < a then 1 else 0
def cmpI (a b : Int) : Int := if a < b then -1 else if b < a then 1 else 0

set_option maxHeartbeats 400000 in
theorem isNaN_any (a : Nat) (a1 : 1 ≤ a) (a4 : a ≤ 4) (w : World) : Calls Ybaf.prog 29 #[fl a] w fun e w' => e = .returned (.bool false) ∧ w' = w := by
  have h : (bo41 .neq (fl a) (fl a)).run Ybaf.prog w = .ok (.bool false) w := by rw [fl_neq a a a1 a4 a1 a4 w]; simp
  obtain ⟨fa, hfa⟩ : ∃ fa, fa = fl a := ⟨_, rfl⟩
  have hg := fun x y => eqg_fl .neq x y a a w
  rw [← hfa] at h hg ⊢
  clear hfa
  go_enter Ybaf.func29, Ybaf.ntmps29
  go_wp2
  go_ret
  exact ⟨rfl, rfl⟩

set_option maxHeartbeats 400000 in
theorem isNaNI_any (a : Int) (w : World) : Calls Ybaf.prog 30 #[.int .i64 a] w fun e w' => e = .returned (.bool false) ∧ w' = w := by
  go_enter Ybaf.func30, Ybaf.ntmps30
  go_wp2
  go_ret
  exact ⟨rfl, rfl⟩

theorem ret_int {k : IntKind} {a b : Int} (h : a = b) : Ending.returned (.int k a) = .returned (.int k b) := by rw [h]

set_option maxHeartbeats 1000000 in
/-- cmp.Compare of two weights. -/
theorem compareF_any (a b : Nat) (a1 : 1 ≤ a) (a4 : a ≤ 4) (b1 : 1 ≤ b) (b4 : b ≤ 4) (w : World) : Calls Ybaf.prog 25 #[fl a, fl b] w fun e w' => e = .returned (.int .i64 (cmpN a b)) ∧ w' = w := by
  have h1 := fun W => isNaN_any a a1 a4 W
  have h2 := fun W => isNaN_any b b1 b4 W
  have l1 := fl_lss a b a1 a4 b1 b4 w
  have l2 := fl_gtr a b a1 a4 b1 b4 w
  obtain ⟨fa, hfa⟩ : ∃ fa, fa = fl a := ⟨_, rfl⟩
  obtain ⟨fb, hfb⟩ : ∃ fa, fa = fl b := ⟨_, rfl⟩
  rw [← hfa] at h1 l1 l2 ⊢
  rw [← hfb] at h2 l1 l2 ⊢
  have H1 := hid h1
  have H2 := hid h2
  have HC := hid (show cmpN a b = if a < b then -1 else if b < a then 1 else 0 from rfl)
  clear hfa hfb h1 h2
  by_cases k1 : a < b
  · rw [decide_eq_true k1] at l1
    have K := hid (show cmpN a b = -1 by unfold cmpN; rw [if_pos k1])
    clear k1
    go_enter Ybaf.func25, Ybaf.ntmps25
    go_wp2_with fail
    refine (H1.out _).mono ?_
    rintro e w' ⟨rfl, rfl⟩
    go_wp2_with fail
    refine (H2.out _).mono ?_
    rintro e w' ⟨rfl, rfl⟩
    go_wp2
    go_ret
    exact ⟨ret_int K.out.symm, rfl⟩
  · rw [decide_eq_false k1] at l1
    by_cases k2 : b < a
    · rw [decide_eq_true k2] at l2
      have K := hid (show cmpN a b = 1 by unfold cmpN; rw [if_neg k1, if_pos k2])
      clear k1 k2
      go_enter Ybaf.func25, Ybaf.ntmps25
      go_wp2_with fail
      refine (H1.out _).mono ?_
      rintro e w' ⟨rfl, rfl⟩
      go_wp2_with fail
      refine (H2.out _).mono ?_
      rintro e w' ⟨rfl, rfl⟩
      go_wp2
      go_ret
      exact ⟨ret_int K.out.symm, rfl⟩
    · rw [decide_eq_false k2] at l2
      have K := hid (show cmpN a b = 0 by unfold cmpN; rw [if_neg k1, if_neg k2])
      clear k1 k2
      go_enter Ybaf.func25, Ybaf.ntmps25
      go_wp2_with fail
      refine (H1.out _).mono ?_
      rintro e w' ⟨rfl, rfl⟩
      go_wp2_with fail
      refine (H2.out _).mono ?_
      rintro e w' ⟨rfl, rfl⟩
      go_wp2
      go_ret
      exact ⟨ret_int K.out.symm, rfl⟩

set_option maxHeartbeats 1000000 in
/-- cmp.Compare of two ints. -/
theorem compareI_any (a b : Int) (w : World) : Calls Ybaf.prog 26 #[.int .i64 a, .int .i64 b] w fun e w' => e = .returned (.int .i64 (cmpI a b)) ∧ w' = w := by
  have H1 := hid (fun W => isNaNI_any a W)
  have H2 := hid (fun W => isNaNI_any b W)
  by_cases k1 : a < b
  · have l1 : decide (a < b) = true := decide_eq_true k1
    have K := hid (show cmpI a b = -1 by unfold cmpI; rw [if_pos k1])
    go_enter Ybaf.func26, Ybaf.ntmps26
    go_wp2_with fail
    refine (H1.out _).mono ?_
    rintro e w' ⟨rfl, rfl⟩
    go_wp2_with fail
    refine (H2.out _).mono ?_
    rintro e w' ⟨rfl, rfl⟩
    go_wp2
    go_ret
    exact ⟨ret_int K.out.symm, rfl⟩
  · have l1 : decide (a < b) = false := decide_eq_false k1
    by_cases k2 : b < a
    · have l2 : decide (b < a) = true := decide_eq_true k2
      have K := hid (show cmpI a b = 1 by unfold cmpI; rw [if_neg k1, if_pos k2])
      go_enter Ybaf.func26, Ybaf.ntmps26
      go_wp2_with fail
      refine (H1.out _).mono ?_
      rintro e w' ⟨rfl, rfl⟩
      go_wp2_with fail
      refine (H2.out _).mono ?_
      rintro e w' ⟨rfl, rfl⟩
      go_wp2
      go_ret
      exact ⟨ret_int K.out.symm, rfl⟩
    · have l2 : decide (b < a) = false := decide_eq_false k2
      have K := hid (show cmpI a b = 0 by unfold cmpI; rw [if_neg k1, if_neg k2])
      go_enter Ybaf.func26, Ybaf.ntmps26
      go_wp2_with fail
      refine (H1.out _).mono ?_
      rintro e w' ⟨rfl, rfl⟩
      go_wp2_with fail
      refine (H2.out _).mono ?_
      rintro e w' ⟨rfl, rfl⟩
      go_wp2
      go_ret
      exact ⟨ret_int K.out.symm, rfl⟩

/-- How two edges are preferred. -/
def cfE (D : GD) (rank : Nat → Int) (a b : Nat) : Int := if cmpN (D.q b) (D.q a) ≠ 0 then cmpN (D.q b) (D.q a) else cmpI (rank (D.src a)) (rank (D.src b))

set_option maxRecDepth 100000 in
set_option maxHeartbeats 2000000 in
/-- The closure that the sort is handed. -/
theorem cmp_any (w : World) (M : GM) (D : GD) (hD : D.Ok) (hG : Gr w M D) (fp SD RK : Nat) (seed : Nat → Bool) (rank : Nat → Int) (hF : Fir w fp SD RK D.n seed rank) (gb fb : Nat) (hgb : w.cell? ⟨gb, 0, none⟩ = some (.pointer (some ⟨M.gp, 0, none⟩))) (hfb : w.cell? ⟨fb, 0, none⟩ = some (.pointer (some ⟨fp, 0, none⟩))) (a b : Nat) (ha : a < D.m) (hb : b < D.m) :
    Calls Ybaf.prog 24 #[.int .i64 (a : Int), .int .i64 (b : Int), .pointer (some ⟨gb, 0, none⟩), .pointer (some ⟨fb, 0, none⟩)] w fun r w' => r = .returned (.int .i64 (cfE D rank a b)) ∧ ∃ k, w' = w.drewN k := by
  obtain ⟨eb, hea, hee⟩ := hG.edg a ha
  have g2 := hG.c2
  rw [hea] at g2
  have g4 := hG.c4
  have f2 := hF.c2
  have x1 := hG.sr a ha
  have x2 := hG.sr b hb
  have x3 := (hee a ha).2.2
  have x4 := (hee b hb).2.2
  have r1 := hF.rk _ (hD.sl a ha)
  have r2 := hF.rk _ (hD.sl b hb)
  have hs := hD.sl a ha
  have hd := hD.sl b hb
  have hqa := hD.ql a ha
  have hqb := hD.ql b hb
  have HCF := hid (fun W => compareF_any (D.q b) (D.q a) hqb.1 hqb.2 hqa.1 hqa.2 W)
  have HCI := hid (fun W => compareI_any (rank (D.src a)) (rank (D.src b)) W)
  have HE := hid (show cfE D rank a b = if cmpN (D.q b) (D.q a) ≠ 0 then cmpN (D.q b) (D.q a) else cmpI (rank (D.src a)) (rank (D.src b)) from rfl)
  obtain ⟨gp, hgp⟩ : ∃ gp, gp = M.gp := ⟨_, rfl⟩
  obtain ⟨s, es⟩ : ∃ s, s = D.src a := ⟨_, rfl⟩
  obtain ⟨t, et⟩ : ∃ t, t = D.src b := ⟨_, rfl⟩
  obtain ⟨SB, hSB⟩ : ∃ SB, SB = M.SB := ⟨_, rfl⟩
  obtain ⟨m, hm⟩ : ∃ m, m = D.m := ⟨_, rfl⟩
  obtain ⟨n, hn⟩ : ∃ n, n = D.n := ⟨_, rfl⟩
  obtain ⟨qa, hqa'⟩ : ∃ q, q = D.q a := ⟨_, rfl⟩
  obtain ⟨qb, hqb'⟩ : ∃ q, q = D.q b := ⟨_, rfl⟩
  obtain ⟨rs, hrs⟩ : ∃ r, r = rank s := ⟨_, rfl⟩
  obtain ⟨rt, hrt⟩ : ∃ r, r = rank t := ⟨_, rfl⟩
  obtain ⟨ec, hec⟩ : ∃ r, r = M.ec := ⟨_, rfl⟩
  rw [← es] at x1 r1 hs HCI HE
  rw [← et] at x2 r2 hd HCI HE
  rw [← hrs] at r1 HCI HE
  rw [← hrt] at r2 HCI HE
  rw [← hqa'] at x3 HCF HE
  rw [← hqb'] at x4 HCF HE
  rw [← hgp] at g2 g4 hgb
  rw [← hm] at g2 g4 ha hb
  rw [← hec] at g2
  rw [← hSB] at g4 x1 x2
  rw [← hn] at f2 hs hd
  clear hgp es et hSB hm hn hqa' hqb' hrs hrt hec hG hF hD hee hea hqa hqb
  have i0 : (0 : Int) ≤ (a : Int) := by omega
  have i1 : (a : Int) < (m : Int) := by omega
  have j0 : (0 : Int) ≤ (b : Int) := by omega
  have j1 : (b : Int) < (m : Int) := by omega
  have s0 : (0 : Int) ≤ (s : Int) := by omega
  have s1 : (s : Int) < (n : Int) := by omega
  have t0 : (0 : Int) ≤ (t : Int) := by omega
  have t1 : (t : Int) < (n : Int) := by omega
  obtain ⟨fa, hfa⟩ : ∃ fa, fa = fl qa := ⟨_, rfl⟩
  obtain ⟨fb', hfb'⟩ : ∃ fa, fa = fl qb := ⟨_, rfl⟩
  rw [← hfa] at x3 HCF
  rw [← hfb'] at x4 HCF
  obtain ⟨c, hc⟩ : ∃ c, c = cmpN qb qa := ⟨_, rfl⟩
  rw [← hc] at HCF HE
  obtain ⟨c2, hc2⟩ : ∃ c, c = cmpI rs rt := ⟨_, rfl⟩
  rw [← hc2] at HCI HE
  clear hfa hfb' hc hc2
  by_cases k : c = 0
  · subst k
    go_enter Ybaf.func24, Ybaf.ntmps24
    go_wp2_with fail
    go_quiet ((go_at_call 25; exact Calls.quiet_of ((HCF.out _).mono fun e w' hh => ⟨hh.1, 0, hh.2⟩)))
    obtain ⟨n1, hn1⟩ : ∃ n1, n1 = nq := ⟨_, rfl⟩
    have HN1 := hid hn1
    obtain ⟨W2, hW2⟩ : ∃ W2, W2 = w.drewN nq := ⟨_, rfl⟩
    rw [← hW2]
    have hcw : ∀ p, W2.cell? p = w.cell? p := fun p => by rw [hW2]; rfl
    have HW2 := hid hW2
    clear hW2 hn1
    go_wp2_with fail
    go_quiet ((go_at_call 26; exact Calls.quiet_of ((HCI.out _).mono fun e w' hh => ⟨hh.1, 0, hh.2⟩)))
    go_wp2
    go_ret
    exact ⟨ret_int (by rw [HE.out]; simp), n1 + nq, by rw [HW2.out, HN1.out, World.drewN_drewN]⟩
  · have k1 : (c == 0) = false := by simpa using k
    have K := hid k
    go_enter Ybaf.func24, Ybaf.ntmps24
    go_wp2_with fail
    go_quiet ((go_at_call 25; exact Calls.quiet_of ((HCF.out _).mono fun e w' hh => ⟨hh.1, 0, hh.2⟩)))
    go_wp2
    go_ret
    exact ⟨ret_int (by rw [HE.out, if_pos K.out]), _, rfl⟩

end Go.Proofs.YbulkectmFmt.A
