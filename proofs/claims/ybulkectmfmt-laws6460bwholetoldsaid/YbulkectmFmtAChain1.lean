import Derived.Test.YbulkectmFmtAStack
namespace Go.Proofs.YbulkectmFmt.A
set_option linter.unusedVariables false
set_option linter.unusedSimpArgs false
open Go.RowKit Go.Deep

def stk (pref : Nat → List Nat) (St : List Stp) : List (Nat × List Nat) := St.reverse.map fun s => (s.1, (pref s.1).drop s.2.2)
def rem (pref : Nat → List Nat) (St : List Stp) : Nat := (St.map fun s => (pref s.1).length - s.2.2).sum
theorem stk_top (pref : Nat → List Nat) (S : List Stp) (s : Stp) : stk pref (S ++ [s]) = (s.1, (pref s.1).drop s.2.2) :: stk pref S := by simp [stk]
theorem rem_top (pref : Nat → List Nat) (S : List Stp) (s : Stp) : rem pref (S ++ [s]) = rem pref S + ((pref s.1).length - s.2.2) := by simp [rem]

/-- What holds of the stack, plainly. -/
structure SOk (G : DG) (F : Option (List Nat)) (E : Nat → Bool) (St : List Stp) : Prop where
  res : RES G E (stk G.pref St) = F
  ns : ∀ S s, St = S ++ [s] → ∀ t ∈ S, G.seed t.1 = false
  nl : ∀ s ∈ St, s.1 < G.n ∧ s.2.2 ≤ (G.pref s.1).length
  ct : St.length + cnt G.n E ≤ G.n

theorem Chs.top {w wr : World} {K : KC} {gp fp RB n : Nat} {pref : Nat → List Nat} {E : Nat → Bool} {S : List Stp} {x t g cap : Nat} {u : Value} (h : Chs w wr K gp fp RB n pref E (S ++ [(x, u, t)]) (.slice (some ⟨g, 0, none⟩) (S.length + 1) cap)) :
    wr.cell? ⟨g, S.length * 3, none⟩ = some (.int .i64 (x : Int)) ∧ wr.cell? ⟨g, S.length * 3 + 1, none⟩ = some u ∧ wr.cell? ⟨g, S.length * 3 + 2, none⟩ = some (.int .i64 (t : Int)) ∧ wr.frozen? ⟨g, S.length * 3 + 2, none⟩ = false := by
  have hl : (S ++ [(x, u, t)]).length = S.length + 1 := by simp
  have h1 := h.own
  rw [hl] at h1
  have hc : ∀ j, j < 3 → wr.cell? ⟨g, S.length * 3 + j, none⟩ = (sc (x, u, t))[j]? := fun j hj => by
    rw [h1.cellAt (S.length * 3 + j) (by omega)]
    exact scs_get S (x, u, t) [] j hj
  refine ⟨by have := hc 0 (by omega); rw [Nat.add_zero] at this; rw [this]; rfl, by rw [hc 1 (by omega)]; rfl, by rw [hc 2 (by omega)]; rfl, ?_⟩
  rcases h1.2 with ⟨e, _⟩ | ⟨g', c, cur, e, _, hb, _⟩
  · cases e
  · cases e
    simp [World.frozen?, hb]

set_option maxRecDepth 1000000 in
set_option maxHeartbeats 8000000 in
/-- chain's walk. -/
theorem chainLoop (w wr : World) (M : GM) (D : GD) (hD : D.Ok) (hG : Gr w M D) (fp SD RK : Nat) (seed : Nat → Bool) (rank : Nat → Int) (hF : Fir w fp SD RK D.n seed rank) (hinj : ∀ x y, 0 ≤ rank x → rank x = rank y → x = y) (RB : Nat) (R : Nat → Bool) (hR : ∀ i, i < D.n → w.cell? ⟨RB, i, none⟩ = some (.bool (R i)))
    (K : KC) (G : DG) (hGn : G.n = D.n) (hGs : G.seed = seed) (hGr : G.src = D.src) (hGp : G.pref = prefL D seed rank R) (hGO : G.Ok) (F : Option (List Nat)) (E0 : Nat → Bool) (St0 : List Stp) (g0 cap0 : Nat) (pv : Value) (hpv : pv = .slice (some ⟨g0, 0, none⟩) St0.length cap0) (h0 : Chs w wr K M.gp fp RB D.n G.pref E0 St0 pv) (hS0 : SOk G F E0 St0)
    (Q : Exit → Act → World → Prop) (s0 s1 s2 s3 s6 s8 s12 s13 s14 s15 s16 s17 s18 s19 s20 s21 s22 s23 s24 s25 s26 s27 s28 s29 s30 s31 s32 s33 s34 s35 s36 s37 s38 s39 s40 s41 s42 s43 s44 s45 s46 s47 s48 s49 s50 s51 s52 s53 s54 s55 s56 s57 s58 s59 s60 s61 s62 s63 s64 s65 s66 s67 s68 s69 s70 s71 s72 s73 s74 s75 s76 s77 s78 s79 s80 s81 s82 s83 s84 s85 s86 s87 s88 s89 s90 s91 s92 s93 s94 s95 s96 s97 s98 s99 s100 s101 s102 s103 s104 s105 s106 s107 s108 s109 s110 s111 s112 s113 s114 s115 s116 s117 s118 s119 s120 s121 s122 s123 s124 s125 s126 s127 s128 s129 s130 s131 : Value)
    (hQ : ∀ (v12 v13 v28 v29 v30 v31 v32 v33 v34 v35 v36 v37 v38 v39 v40 v41 v42 v43 v44 v45 v46 v47 v48 v49 v50 v51 v52 v53 v54 v55 v56 v57 v58 v59 v60 v61 v62 v63 v64 v65 v66 v67 v68 v69 v70 v71 v72 v73 v74 v75 v76 v77 v78 v79 v80 v81 v82 v83 v84 v85 v86 v87 v88 v89 v90 v91 v92 v93 v94 v95 v96 v97 v98 v99 v100 : Value) (w1 : World) (E : Nat → Bool) (St : List Stp) (g cap : Nat) (v : Value), v = .slice (some ⟨g, 0, none⟩) St.length cap → Chs w w1 K M.gp fp RB D.n G.pref E St v → (∀ s ∈ St, s.1 < D.n) → St.length ≤ D.n → ((St = [] ∧ F = none) ∨ (St ≠ [] ∧ F = some ((St.map (·.1)).reverse))) → Q .normal ⟨#[s0, s1, s2, s3, .pointer (some ⟨K.gB, 0, none⟩), .pointer (some ⟨K.fB, 0, none⟩), s6, .pointer (some ⟨K.mB, 0, none⟩), s8, .pointer (some ⟨K.eV, 0, none⟩), .func (.func 19) #[] #[.pointer (some ⟨K.eV, 0, none⟩), .pointer (some ⟨K.gB, 0, none⟩), .pointer (some ⟨K.fB, 0, none⟩), .pointer (some ⟨K.mB, 0, none⟩)], v, v12, v13, s14, s15, s16, s17, s18, s19, s20, s21, s22, s23, s24, s25, s26, s27, v28, v29, v30, v31, v32, v33, v34, v35, v36, v37, v38, v39, v40, v41, v42, v43, v44, v45, v46, v47, v48, v49, v50, v51, v52, v53, v54, v55, v56, v57, v58, v59, v60, v61, v62, v63, v64, v65, v66, v67, v68, v69, v70, v71, v72, v73, v74, v75, v76, v77, v78, v79, v80, v81, v82, v83, v84, v85, v86, v87, v88, v89, v90, v91, v92, v93, v94, v95, v96, v97, v98, v99, v100, s101, s102, s103, s104, s105, s106, s107, s108, s109, s110, s111, s112, s113, s114, s115, s116, s117, s118, s119, s120, s121, s122, s123, s124, s125, s126, s127, s128, s129, s130, s131], []⟩ w1) :
    Code.wp Ybaf.prog ((Ybaf.f14.body.bind (findLoop 4)).getD .skip) (Exit.inBlock 0 Q) ⟨#[s0, s1, s2, s3, .pointer (some ⟨K.gB, 0, none⟩), .pointer (some ⟨K.fB, 0, none⟩), s6, .pointer (some ⟨K.mB, 0, none⟩), s8, .pointer (some ⟨K.eV, 0, none⟩), .func (.func 19) #[] #[.pointer (some ⟨K.eV, 0, none⟩), .pointer (some ⟨K.gB, 0, none⟩), .pointer (some ⟨K.fB, 0, none⟩), .pointer (some ⟨K.mB, 0, none⟩)], pv, s12, s13, s14, s15, s16, s17, s18, s19, s20, s21, s22, s23, s24, s25, s26, s27, s28, s29, s30, s31, s32, s33, s34, s35, s36, s37, s38, s39, s40, s41, s42, s43, s44, s45, s46, s47, s48, s49, s50, s51, s52, s53, s54, s55, s56, s57, s58, s59, s60, s61, s62, s63, s64, s65, s66, s67, s68, s69, s70, s71, s72, s73, s74, s75, s76, s77, s78, s79, s80, s81, s82, s83, s84, s85, s86, s87, s88, s89, s90, s91, s92, s93, s94, s95, s96, s97, s98, s99, s100, s101, s102, s103, s104, s105, s106, s107, s108, s109, s110, s111, s112, s113, s114, s115, s116, s117, s118, s119, s120, s121, s122, s123, s124, s125, s126, s127, s128, s129, s130, s131], []⟩ wr := by
  conv => arg 2; whnf
  conv => arg 4; dsimp only
  go_loopg [11] (cnt G.n E0 * (D.m + 2) + rem G.pref St0 + St0.length) (fun gk v wr => ∃ (E : Nat → Bool) (St : List Stp) (g cap : Nat), gk = cnt G.n E * (D.m + 2) + rem G.pref St + St.length ∧ v = .slice (some ⟨g, 0, none⟩) St.length cap ∧ Chs w wr K M.gp fp RB D.n G.pref E St v ∧ SOk G F E St)
  case atStart => exact ⟨E0, St0, g0, cap0, rfl, hpv, h0, hS0⟩
  case round =>
    clear h0 hS0 hpv
    obtain ⟨E, St, g, cap, hgk, rfl, hC, hS⟩ := hrel
    have hBw := hC.below
    have hct := hS.ct
    have hn3 := hD.hn
    have b1 : wr.cell? ⟨K.gB, 0, none⟩ = some (.pointer (some ⟨M.gp, 0, none⟩)) := by simp [World.cell?, hC.hg]
    have b2 : wr.cell? ⟨K.fB, 0, none⟩ = some (.pointer (some ⟨fp, 0, none⟩)) := by simp [World.cell?, hC.hf]
    have b3 : wr.cell? ⟨K.eV, 0, none⟩ = some (.slice (some ⟨K.EB, 0, none⟩) D.n D.n) := by simp [World.cell?, hC.he]
    have f1 := cell_old hBw hF.c1
    have g4 := cell_old hBw hG.c4
    have HGK := hid hgk
    clear hgk
    rcases List.eq_nil_or_concat St with rfl | ⟨S, s, rfl⟩
    · have hF0 : F = none := by have := hS.res; simpa [stk, RES] using this.symm
      have HC := hid hC
      have HF0 := hid hF0
      clear hC hF0 hS b1 b2 b3 f1 g4
      go_wp2_with fail
      go_quiet (fail)
      go_wp2
      exact hQ _ _ _ _ _ _ _ _ _ _ _ _ _ _ _ _ _ _ _ _ _ _ _ _ _ _ _ _ _ _ _ _ _ _ _ _ _ _ _ _ _ _ _ _ _ _ _ _ _ _ _ _ _ _ _ _ _ _ _ _ _ _ _ _ _ _ _ _ _ _ _ _ _ _ _ _ E [] g cap _ rfl (HC.out.keep (below_drewN (Below.refl _ _) nq)) (fun s hs => by cases hs) (Nat.zero_le _) (.inl ⟨rfl, HF0.out⟩)
    · obtain ⟨x, u, t⟩ := s
      rw [List.concat_eq_append] at hC hS HGK ⊢
      have hlS : (S ++ [(x, u, t)]).length = S.length + 1 := by simp
      rw [hlS] at hC ⊢
      obtain ⟨c1, c2, c3, c4⟩ := hC.top
      have hxl := hS.nl (x, u, t) (by simp)
      have hxn : x < D.n := by rw [← hGn]; exact hxl.1
      have f2 := cell_old hBw (hF.sd x hxn)
      obtain ⟨k, hk⟩ : ∃ k, k = S.length := ⟨_, rfl⟩
      rw [← hk] at hC c1 c2 c3 c4 ⊢
      have hk3 : k ≤ 300 := by rw [List.concat_eq_append, hlS, ← hk] at hct; omega
      have hcap : k ≤ cap := by
        rcases hC.own.2 with ⟨e, _⟩ | ⟨g', c', cur, e, _, _, h1, _⟩
        · cases e
        · injection e with e1 e2 e3
          rw [hlS, ← hk, ← e3] at h1
          omega
      obtain ⟨ua, uc, eu, hue⟩ := hC.ent (x, u, t) (by simp)
      simp only at eu hue
      subst eu
      obtain ⟨L, hL⟩ : ∃ L, L = G.pref x := ⟨_, rfl⟩
      rw [← hL] at c2 hue
      have htl : t ≤ L.length := by rw [hL]; exact hxl.2
      have HK := hid hk
      have hlS2 := hid hlS
      have e1 : IntKind.i64.wrap ((k : Int) + 1 - 1) = (k : Int) := by rw [IntKind.wrap_i64]; omega
      have k0 : (0 : Int) ≤ (k : Int) := by omega
      have k1 : (k : Int) < (k : Int) + 1 := by omega
      have x0 : (0 : Int) ≤ (x : Int) := by omega
      have x1 : (x : Int) < (D.n : Int) := by omega
      obtain ⟨sx, hsx⟩ : ∃ sx, sx = seed x := ⟨_, rfl⟩
      rw [← hsx] at f2
      have HSX := hid hsx
      have HC := hid hC
      have HS := hid hS
      have Hue := hid hue
      clear hk hC hS hsx hct hlS
      cases sx with
      | true =>
        go_wp2_with fail
        go_quiet (fail)
        have HC2 := hid (HC.out.keep (wx := wr.drewN nq) (below_drewN (Below.refl _ _) nq))
        clear HC
        go_wp2
        have hS := HS.out
        refine hQ _ _ _ _ _ _ _ _ _ _ _ _ _ _ _ _ _ _ _ _ _ _ _ _ _ _ _ _ _ _ _ _ _ _ _ _ _ _ _ _ _ _ _ _ _ _ _ _ _ _ _ _ _ _ _ _ _ _ _ _ _ _ _ _ _ _ _ _ _ _ _ _ _ _ _ _ E (S ++ [(x, Value.slice ua (G.pref x).length uc, t)]) g cap _ ?_ HC2.out (fun s hs => by rw [← hGn]; exact (hS.nl s hs).1) (by have := hS.ct; omega) (.inr ⟨by simp, ?_⟩)
        · rw [hlS2.out, HK.out]
        · rw [← hS.res, stk_top, RES_cons, if_pos (by rw [hGs]; exact HSX.out.symm)]
          simp [stk]
      | false =>
        have hcw0 : True := trivial
        have hLlen : L.length ≤ 2048 := by rw [hL, hGp]; exact Nat.le_trans prefL_len hD.hm
        by_cases htL : t = L.length
        · subst htL
          have HC3 : Hid (∀ W, Below wr.heap.size wr W → Chs w W K M.gp fp RB D.n G.pref E S (.slice (some ⟨g, 0, none⟩) k cap)) := hid (fun W hW => by
            have h1 := HC.out.keep hW
            rw [HK.out] at h1 ⊢
            exact h1.pop)
          have HS3 : Hid (SOk G F E S) := hid (by
            have hS := HS.out
            refine ⟨?_, fun S' s' e t' ht' => hS.ns S _ rfl t' (by rw [e]; simp [ht']), fun s hs => hS.nl s (by simp [hs]), by have := hS.ct; rw [hlS2.out] at this; omega⟩
            have h1 := hS.res
            rw [stk_top] at h1
            simp only [← hL, List.drop_length] at h1
            rw [RES_pop _ _ _ (by rw [hGs]; exact HSX.out.symm)] at h1
            exact h1)
          have cc : (k : Int) ≤ (cap : Int) := by omega
          clear HC hue c4
          go_wp2_with fail
          go_quiet (fail)
          obtain ⟨W1, hW1⟩ : ∃ W1, W1 = wr.drewN nq := ⟨_, rfl⟩
          have HB1 : Hid (Below wr.heap.size wr W1) := hid (by rw [hW1]; exact below_drewN (Below.refl _ _) nq)
          have hcw1 : ∀ p, W1.cell? p = wr.cell? p := fun p => by rw [hW1]; rfl
          rw [← hW1]
          clear hW1
          go_wp2_with fail
          go_quiet (fail)
          have HB2 : Hid (Below wr.heap.size wr (W1.drewN nq)) := hid (below_drewN HB1.out nq)
          go_wp2
          go_roundg (cnt G.n E * (D.m + 2) + rem G.pref S + S.length)
          case measure =>
            rw [HGK.out, hlS2.out, rem_top]
            omega
          case rel => exact ⟨E, S, g, cap, rfl, by rw [HK.out], HC3.out _ HB2.out, HS3.out⟩
        · have htl2 : t < L.length := by omega
          obtain ⟨b, o, eab, hbE, hbg, ce⟩ := Hue.out t htl2
          subst eab
          obtain ⟨e, hee⟩ : ∃ e, e = L[t] := ⟨_, rfl⟩
          rw [← hee] at ce
          have hmem : e ∈ prefL D seed rank R x := by rw [← hGp, ← hL, hee]; exact List.getElem_mem htl2
          have hem : e < D.m := (mem_prefL.1 hmem).1
          have hyn := hD.sl e hem
          have x5 := cell_old hBw (hG.sr e hem)
          obtain ⟨y, hy⟩ : ∃ y, y = D.src e := ⟨_, rfl⟩
          rw [← hy] at x5 hyn
          have hdrop : (G.pref x).drop t = e :: (G.pref x).drop (t + 1) := by rw [← hL, List.drop_eq_getElem_cons htl2, ← hee]
          have hsrc : G.src e = y := by rw [hGr, hy]
          have w2 : IntKind.i64.wrap ((t : Int) + 1) = (t : Int) + 1 := by rw [IntKind.wrap_i64]; omega
          have t0 : (0 : Int) ≤ (t : Int) := by omega
          have t1 : (t : Int) < (L.length : Int) := by omega
          have e0 : (0 : Int) ≤ (e : Int) := by omega
          have e2 : (e : Int) < (D.m : Int) := by omega
          have y0 : (0 : Int) ≤ (y : Int) := by omega
          have y1 : (y : Int) < (D.n : Int) := by omega
          have htL2 : ((t : Int) == (L.length : Int)) = false := by simp; omega
          have htL3 : decide (t = L.length) = false := by simp; omega
          have htL4 : (t == L.length) = false := by simp; omega
          have htL5 : decide ((t : Int) = (L.length : Int)) = false := by simp; omega
          have HT : Hid (∀ W, Below wr.heap.size wr W → Chs w (W.setCell ⟨g, k * 3 + 2, none⟩ (.int .i64 ((t : Int) + 1))) K M.gp fp RB D.n G.pref E (S ++ [(x, Value.slice (some ⟨b, o, none⟩) (G.pref x).length uc, t + 1)]) (.slice (some ⟨g, 0, none⟩) (k + 1) cap)) := hid (fun W hW => by
            have h1 := HC.out.keep hW
            rw [HK.out] at h1 ⊢
            exact h1.tried)
          have HKEY : Hid (E y = true → SOk G F E (S ++ [(x, Value.slice (some ⟨b, o, none⟩) (G.pref x).length uc, t + 1)])) := hid (fun hEy => by
            have hS := HS.out
            refine ⟨?_, fun S' s' e' t' ht' => ?_, fun s hs => ?_, by have := hS.ct; simp at this ⊢; omega⟩
            · rw [stk_top]
              have h1 := hS.res
              rw [stk_top] at h1
              simp only [hdrop] at h1
              rw [RES_skip _ _ _ _ _ (by rw [hGs]; exact HSX.out.symm) (by rw [hsrc]; exact hEy)] at h1
              exact h1
            · have h2 := List.append_inj' e' rfl
              rw [← h2.1] at ht'
              exact hS.ns S _ rfl t' ht'
            · rcases List.mem_append.1 hs with h1 | h1
              · exact hS.nl s (by simp [h1])
              · simp at h1; subst h1
                exact ⟨(hS.nl (x, Value.slice (some ⟨b, o, none⟩) (G.pref x).length uc, t) (by simp)).1, (show t + 1 ≤ (G.pref x).length by rw [← hL]; omega)⟩)
          have HKEY2 : Hid (E y = false → ∀ u', SOk G F (upd E y true) ((S ++ [(x, Value.slice (some ⟨b, o, none⟩) (G.pref x).length uc, t + 1)]) ++ [(y, u', 0)])) := hid (fun hEy u' => by
            have hS := HS.out
            have hyG : y < G.n := by rw [hGn]; exact hyn
            refine ⟨?_, fun S' s' e' t' ht' => ?_, fun s hs => ?_, ?_⟩
            · rw [stk_top, stk_top]
              have h1 := hS.res
              rw [stk_top] at h1
              simp only [hdrop] at h1
              rw [RES_push hGO _ _ _ _ _ (by rw [hGs]; exact HSX.out.symm) (by rw [hsrc]; exact hyG) (by rw [hsrc]; exact hEy), hsrc] at h1
              exact h1
            · have h2 := List.append_inj' e' rfl
              rw [← h2.1] at ht'
              rcases List.mem_append.1 ht' with h3 | h3
              · exact hS.ns S _ rfl t' h3
              · simp at h3; subst h3
                show G.seed x = false
                rw [hGs]; exact HSX.out.symm
            · rcases List.mem_append.1 hs with h1 | h1
              · rcases List.mem_append.1 h1 with h1 | h1
                · exact hS.nl s (by simp [h1])
                · simp at h1; subst h1
                  exact ⟨(hS.nl (x, Value.slice (some ⟨b, o, none⟩) (G.pref x).length uc, t) (by simp)).1, (show t + 1 ≤ (G.pref x).length by rw [← hL]; omega)⟩
              · simp at h1; subst h1
                exact ⟨hyG, Nat.zero_le _⟩
            · have h1 := cnt_enter G.n E y hyG hEy
              have := hS.ct
              simp at this ⊢
              omega)
          obtain ⟨Ey, hEy⟩ : ∃ b, b = E y := ⟨_, rfl⟩
          have HEY := hid hEy
          have hebC := HC.out.eb
          have hgE : K.EB ≠ g := fun h => by have h1 := (HC.out.own.lt g rfl).1; have := HC.out.lo; omega
          have cE := hebC.cell hyn
          rw [← hEy] at cE
          have hgV : K.eV ≠ g := fun h => by have h1 := (HC.out.own.lt g rfl).1; have := HC.out.lo; omega
          have hgl : g < wr.heap.size := (HC.out.own.lt g rfl).2
          have HL := hid hL
          have HGN := hid hGn
          have HGP := hid hGp
          have HGS := hid hGs
          have HGR := hid hGr
          have Hy := hid hy
          clear hEy hebC Hue HC hL hGn hGp hGs hGr hy hee hdrop hsrc
          cases Ey with
          | true =>
            go_wp2_with fail
            go_quiet (fail)
            obtain ⟨W1, hW1⟩ : ∃ W1, W1 = wr.drewN nq := ⟨_, rfl⟩
            have HB1 : Hid (Below wr.heap.size wr W1) := hid (by rw [hW1]; exact below_drewN (Below.refl _ _) nq)
            have hcw1 : ∀ p, W1.cell? p = wr.cell? p := fun p => by rw [hW1]; rfl
            have hcf1 : ∀ p, W1.frozen? p = wr.frozen? p := fun p => by rw [hW1]; rfl
            rw [← hW1]
            clear hW1
            go_wp2_with fail
            go_quiet (fail)
            obtain ⟨W2, hW2⟩ : ∃ W2, W2 = W1.drewN nq := ⟨_, rfl⟩
            have HB2 : Hid (Below wr.heap.size wr W2) := hid (by rw [hW2]; exact below_drewN HB1.out nq)
            have hcw2 : ∀ p, W2.cell? p = wr.cell? p := fun p => by rw [hW2]; exact hcw1 p
            have hcf2 : ∀ p, W2.frozen? p = wr.frozen? p := fun p => by rw [hW2]; exact hcf1 p
            rw [← hW2]
            clear hW2 hcw1 hcf1
            go_wp2_with fail
            go_quiet (fail)
            obtain ⟨W3, hW3⟩ : ∃ W3, W3 = W2.drewN nq := ⟨_, rfl⟩
            have HB3 : Hid (Below wr.heap.size wr W3) := hid (by rw [hW3]; exact below_drewN HB2.out nq)
            have hcw3 : ∀ p, W3.cell? p = wr.cell? p := fun p => by rw [hW3]; exact hcw2 p
            have hcf3 : ∀ p, W3.frozen? p = wr.frozen? p := fun p => by rw [hW3]; exact hcf2 p
            rw [← hW3]
            clear hW3 hcw2 hcf2
            go_wp2
            go_roundg (cnt G.n E * (D.m + 2) + rem G.pref (S ++ [(x, Value.slice (some ⟨b, o, none⟩) (G.pref x).length uc, t + 1)]) + (k + 1))
            case measure =>
              have hL := HL.out
              rw [HGK.out, hlS2.out, rem_top, rem_top, HK.out]
              simp only [← hL]
              omega
            case rel => exact ⟨E, _, g, cap, by rw [List.length_append, HK.out]; rfl, by rw [List.length_append, HK.out]; rfl, HT.out _ HB3.out, HKEY.out HEY.out.symm⟩
          | false =>
            have HEN : Hid (∀ W, Below wr.heap.size wr W → Calls Ybaf.prog 19 #[.int .i64 (y : Int), .pointer (some ⟨K.eV, 0, none⟩), .pointer (some ⟨K.gB, 0, none⟩), .pointer (some ⟨K.fB, 0, none⟩), .pointer (some ⟨K.mB, 0, none⟩)] (W.setCell ⟨g, k * 3 + 2, none⟩ (.int .i64 ((t : Int) + 1))) fun e w' => ∃ u, e = .returned (.agg #[.int .i64 (y : Int), u, .int .i64 0]) ∧ Below (W.setCell ⟨g, k * 3 + 2, none⟩ (.int .i64 ((t : Int) + 1))).heap.size ((W.setCell ⟨g, k * 3 + 2, none⟩ (.int .i64 ((t : Int) + 1))).setCell ⟨K.EB, y, none⟩ (.bool true)) w' ∧ Row w' u (G.pref y).length (ints (G.pref y)) ∧ ∀ z k' c, u = .slice (some z) k' c → (W.setCell ⟨g, k * 3 + 2, none⟩ (.int .i64 ((t : Int) + 1))).heap.size ≤ z.block) := hid (fun W hW => by
              have hT := HT.out W hW
              obtain ⟨q1, q2, q3, q4, q5, q6, q7, q8, q9, q10, q11⟩ := hT.lo
              have := enter_any w _ hT.below M D hD hG fp SD RK seed rank hF hinj RB R hR K.eV K.EB K.gB K.fB K.mB q1 (by simp [World.cell?, hT.he]) (by simp [World.cell?, hT.hg]) (by simp [World.cell?, hT.hf]) (by simp [World.cell?, hT.hm]) q8 q9 q10 E hT.eb y hyn
              rw [← HGP.out] at this
              exact this)
            go_wp2_with fail
            go_quiet (fail)
            obtain ⟨W1, hW1⟩ : ∃ W1, W1 = wr.drewN nq := ⟨_, rfl⟩
            have HB1 : Hid (Below wr.heap.size wr W1) := hid (by rw [hW1]; exact below_drewN (Below.refl _ _) nq)
            have hcw1 : ∀ p, W1.cell? p = wr.cell? p := fun p => by rw [hW1]; rfl
            have hcf1 : ∀ p, W1.frozen? p = wr.frozen? p := fun p => by rw [hW1]; rfl
            rw [← hW1]
            clear hW1
            go_wp2_with fail
            go_quiet (fail)
            obtain ⟨W2, hW2⟩ : ∃ W2, W2 = W1.drewN nq := ⟨_, rfl⟩
            have HB2 : Hid (Below wr.heap.size wr W2) := hid (by rw [hW2]; exact below_drewN HB1.out nq)
            have hcw2 : ∀ p, W2.cell? p = wr.cell? p := fun p => by rw [hW2]; exact hcw1 p
            have hcf2 : ∀ p, W2.frozen? p = wr.frozen? p := fun p => by rw [hW2]; exact hcf1 p
            rw [← hW2]
            clear hW2 hcw1 hcf1
            go_wp2_with fail
            go_quiet (fail)
            obtain ⟨W3, hW3⟩ : ∃ W3, W3 = W2.drewN nq := ⟨_, rfl⟩
            have HB3 : Hid (Below wr.heap.size wr W3) := hid (by rw [hW3]; exact below_drewN HB2.out nq)
            have hcw3 : ∀ p, W3.cell? p = wr.cell? p := fun p => by rw [hW3]; exact hcw2 p
            have hcf3 : ∀ p, W3.frozen? p = wr.frozen? p := fun p => by rw [hW3]; exact hcf2 p
            rw [← hW3]
            clear hW3 hcw2 hcf2
            go_wp2_with fail
            refine (HEN.out W3 HB3.out).mono ?_
            rintro r w5 ⟨u5, rfl, hB5, hrow5, hnew5⟩
            obtain ⟨ua5, uc5, rfl, hrr5⟩ := hrow5
            have hrow5 : Row w5 (.slice ua5 (G.pref y).length uc5) (G.pref y).length (ints (G.pref y)) := ⟨ua5, uc5, rfl, hrr5⟩
            have hT3 := HT.out W3 HB3.out
            obtain ⟨W4, hW4⟩ : ∃ W4, W4 = W3.setCell ⟨g, k * 3 + 2, none⟩ (.int .i64 ((t : Int) + 1)) := ⟨_, rfl⟩
            rw [← hW4] at hB5 hnew5 hT3
            have hs5 : W4.heap.size ≤ w5.heap.size := by have := hB5.size; rw [nblk_setCell] at this; exact this
            have hown5 : w5.ownsRow K.base 78 3 (.slice (some ⟨g, 0, none⟩) (k + 1) cap) (k + 1) (scs (S ++ [(x, Value.slice (some ⟨b, o, none⟩) (G.pref x).length uc, t + 1)])) := by
              have h1 := hT3.own
              have h2 : (S ++ [(x, Value.slice (some ⟨b, o, none⟩) (G.pref x).length uc, t + 1)]).length = k + 1 := by rw [List.length_append, HK.out]; rfl
              rw [h2] at h1
              refine h1.kept (row := some K.EB) ⟨hB5.os, hB5.tape, hB5.output, hs5, fun k' hk' hne => ?_⟩ (.inr (fun e => hgE (by injection e with e; exact e.symm)))
              rw [hB5.block k' hk', blk_setCell_other _ _ _ _ (by simp; exact fun e => hne (by rw [e]))]
            have hbs5 : K.base ≤ w5.heap.size := by have := (hT3.own.lt g rfl); omega
            have HPU : Hid (∀ (w6 : World) (g2 cap2 : Nat), w6.ownsRow K.base 78 3 (.slice (some ⟨g2, 0, none⟩) (k + 1 + 1) cap2) (k + 1 + 1) (scs (S ++ [(x, Value.slice (some ⟨b, o, none⟩) (G.pref x).length uc, t + 1)]) ++ sc (y, Value.slice ua5 (G.pref y).length uc5, 0)) → w5.grownBy w6 (some g) → (some g = some g2 ∨ g2 = w5.heap.size + 1) → Chs w w6 K M.gp fp RB D.n G.pref (upd E y true) ((S ++ [(x, Value.slice (some ⟨b, o, none⟩) (G.pref x).length uc, t + 1)]) ++ [(y, Value.slice ua5 (G.pref y).length uc5, 0)]) (.slice (some ⟨g2, 0, none⟩) (k + 1 + 1) cap2)) := hid (fun w6 g2 cap2 h1 h2 h3 => by
              have hl2 : (S ++ [(x, Value.slice (some ⟨b, o, none⟩) (G.pref x).length uc, t + 1)]).length = k + 1 := by rw [List.length_append, HK.out]; rfl
              have := hT3.push y hB5 hrow5 hnew5 (by rw [hl2]; exact h1) h2 h3
              rw [hl2] at this
              exact this)
            clear hB5 hnew5 hW4 hT3 HEN HT cE c1 c2 c3 c4 ce x5 b1 b2 b3 f1 f2 g4 hs5
            go_wp2_with ((at_builtin; refine wpList_append_at (wr := w5) rfl (.tmp 95) (.tmp 99) 81 rfl 78 (.agg #[.int .i64 0, .slice none 0 0, .int .i64 0]) 3 40 Ybaf.underlying81 info78 rfl (by omega) (by omega) (.slice (some ⟨g, 0, none⟩) (k + 1) cap) (k + 1) _ rfl K.base hown5 hbs5 [.int .i64 (y : Int), .slice ua5 (G.pref y).length uc5, .int .i64 0] rfl (by simp [Value.oneCell']) w5.heap.size rfl rfl (by omega) ?_; intro g2 cap2 w6 ho6 hgr6 hat6))
            have HCF := hid (HPU.out w6 g2 cap2 ho6 hgr6 hat6)
            clear HPU ho6 hgr6 hat6 hown5 hbs5
            go_roundg (cnt G.n (upd E y true) * (D.m + 2) + rem G.pref ((S ++ [(x, Value.slice (some ⟨b, o, none⟩) (G.pref x).length uc, t + 1)]) ++ [(y, Value.slice ua5 (G.pref y).length uc5, 0)]) + (k + 1 + 1))
            case measure =>
              have hL := HL.out
              have hce := cnt_enter G.n E y (by rw [HGN.out]; exact hyn) HEY.out.symm
              have hpl : (G.pref y).length ≤ D.m := by rw [HGP.out]; exact prefL_len
              have hmul : cnt G.n (upd E y true) * (D.m + 2) + (D.m + 2) ≤ cnt G.n E * (D.m + 2) := by
                have := Nat.mul_le_mul_right (D.m + 2) hce
                rw [Nat.add_mul, Nat.one_mul] at this
                exact this
              rw [HGK.out, hlS2.out, rem_top, rem_top, rem_top, HK.out]
              simp only [← hL]
              omega
            case rel => exact ⟨upd E y true, _, g2, cap2, by simp [HK.out], by simp [HK.out], HCF.out, HKEY2.out HEY.out.symm _⟩

end Go.Proofs.YbulkectmFmt.A
