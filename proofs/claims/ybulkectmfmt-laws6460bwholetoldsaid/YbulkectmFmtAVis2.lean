import Derived.Test.YbulkectmFmtAVis3
namespace Go.Proofs.YbulkectmFmt.A
set_option linter.unusedVariables false
set_option linter.unusedSimpArgs false
open Go.RowKit Go.Deep

theorem grown_trans {w w1 w2 : World} {row : Option Nat} (h1 : w.grownBy w1 row) (h2 : w1.grownBy w2 row) : w.grownBy w2 row :=
  ⟨h2.os.trans h1.os, h2.tape.trans h1.tape, h2.output.trans h1.output, Nat.le_trans h1.size h2.size, fun k hk hne => (h2.block k (Nat.lt_of_lt_of_le hk h1.size) hne).trans (h1.block k hk hne)⟩
theorem grown_set {w w1 : World} {row : Option Nat} (h1 : w.grownBy w1 row) {b o : Nat} (hb : w.heap.size ≤ b ∨ some b = row) (v : Value) : w.grownBy (w1.setCell ⟨b, o, none⟩ v) row :=
  ⟨h1.os, h1.tape, h1.output, by rw [nblk_setCell]; exact h1.size, fun k hk hne => by
    rw [blk_setCell_other _ _ _ _ (by show k ≠ b; rintro rfl; exact hb.elim (fun h => by omega) (fun h => hne h))]
    exact h1.block k hk hne⟩
/-- An append to a row of the call's own. -/
theorem grown_own {w w1 w2 : World} {row r2 : Option Nat} (h1 : w.grownBy w1 row) (h2 : w1.grownBy w2 r2) (hr : ∀ k, r2 = some k → w.heap.size ≤ k) : w.grownBy w2 row :=
  ⟨h2.os.trans h1.os, h2.tape.trans h1.tape, h2.output.trans h1.output, Nat.le_trans h1.size h2.size, fun k hk hne => (h2.block k (Nat.lt_of_lt_of_le hk h1.size) (fun e => by have := hr k e.symm; omega)).trans (h1.block k hk hne)⟩

/-- What a visit leaves. -/
def VPost (w : World) (EN n : Nat) (res : Option (List Nat) × (Nat → Bool)) (e : Ending) (w' : World) : Prop :=
  w.grownBy w' (some EN) ∧ w'.rowIs EN 4 n (fun i => .bool (res.2 i)) ∧ ∃ u, e = .returned u ∧
    ((res.1 = none ∧ u = .slice none 0 0) ∨ ∃ p, res.1 = some p ∧ p ≠ [] ∧ w'.ownsRow w.heap.size 3 1 u p.length (iv p))

/-- The choice under way. -/
structure Vl (w0 wr : World) (EN n : Nat) (L : List Nat) (a : Option Addr) (UB : Nat) (used E : Nat → Bool) : Prop where
  gr : w0.grownBy wr (some EN)
  en : wr.rowIs EN 4 n (fun i => .bool (E i))
  ca : ∀ j (h : j < L.length), ∃ b, a = some ⟨b, 0, none⟩ ∧ w0.heap.size ≤ b ∧ b ≠ UB ∧ wr.cell? ⟨b, j, none⟩ = some (.int .i64 ((L[j] : Nat) : Int))
  us : wr.rowIs UB 4 L.length (fun i => .bool (used i))
  lo : w0.heap.size ≤ UB
  el : EN < w0.heap.size
section
variable {w0 wr : World} {EN n : Nat} {L : List Nat} {a : Option Addr} {UB : Nat} {used E : Nat → Bool}
theorem Vl.keep (h : Vl w0 wr EN n L a UB used E) {wx : World} (hg : wr.grownBy wx (some EN)) {E' : Nat → Bool} (he : wx.rowIs EN 4 n (fun i => .bool (E' i))) : Vl w0 wx EN n L a UB used E' := by
  have hel := h.el
  have hlo := h.lo
  refine ⟨grown_trans h.gr hg, he, fun j hj => ?_, h.us.of_block (hg.block UB h.us.lt (fun e => by injection e; omega)), hlo, hel⟩
  obtain ⟨b, e, hb, hne, hc⟩ := h.ca j hj
  exact ⟨b, e, hb, hne, cell_grown hg (fun e => by injection e; omega) hc⟩
theorem Vl.drewN (h : Vl w0 wr EN n L a UB used E) (d : Nat) : Vl w0 (wr.drewN d) EN n L a UB used E := h.keep (grown_of_below (below_drewN (Below.refl _ _) d) _) h.en
theorem Vl.use (h : Vl w0 wr EN n L a UB used E) {i : Nat} {used' : Nat → Bool} (hu : ∀ c, c < L.length → used' c = upd used i true c) : Vl w0 (wr.setCell ⟨UB, i, none⟩ (.bool true)) EN n L a UB used' E := by
  have hel := h.el
  have hlo := h.lo
  refine ⟨grown_set h.gr (.inl hlo) _, h.en.setOther (by show EN ≠ UB; omega) _, fun j hj => ?_, (h.us.set i _).congr fun c hc => ?_, hlo, hel⟩
  · obtain ⟨b, e, hb, hne, hc⟩ := h.ca j hj
    refine ⟨b, e, hb, hne, ?_⟩
    rw [World.cell?_of_block (a := ⟨b, j, none⟩) (blk_setCell_other _ _ _ _ (by exact hne))]
    exact hc
  · rw [hu c hc]
    unfold upd
    split <;> rfl
end

set_option maxRecDepth 1000000 in
set_option maxHeartbeats 8000000 in
/-- 'for t := 0; t < len(cand); t++ { .. }' of visit. -/
theorem visLoop2 (w0 w : World) (P : MP) (D : GD) (hD : D.Ok) (seed R : Nat → Bool) (rank : Nat → Int) (hM : Mm w0 P D seed R rank) (hinj : ∀ x y, 0 ≤ rank x → rank x = rank y → x = y) (v : Nat) (N : Nat)
    (G : DG) (hGn : G.n = D.n) (hGs : G.src = D.src) (hGp : G.pref = prefL D seed rank R) (hGO : G.Ok)
    (HV : ∀ (w' : World) (E' : Nat → Bool) (u : Nat), Mm w' P D seed R rank → w'.rowIs P.EN 4 D.n (fun i => .bool (E' i)) → u < D.n → E' u = false → cnt D.n E' ≤ N → Calls Ybaf.prog 9 #[.pointer (some ⟨P.mp, 0, none⟩), .int .i64 (u : Int)] w' (VPost w' P.EN D.n (V G E' u)))
    (a : Option Addr) (c : Nat) (UB : Nat) (E0 : Nat → Bool) (hV0 : Vl w0 w P.EN D.n (candE D seed rank R v) a UB (fun _ => false) E0) (hcn : cnt D.n E0 ≤ N)
    (Q : Exit → Act → World → Prop) (s2 s3 s6 s9 s10 s11 s12 s13 s14 s15 s16 s17 s18 s19 s20 s21 s22 s23 s24 s25 s26 s27 s28 s29 s30 s31 s32 s33 s34 s35 s36 s37 s38 s39 s40 s41 s42 s43 s44 s45 s46 s47 s48 s49 s50 s51 s52 s53 s54 s55 s56 s57 s58 s59 s60 s61 s62 s63 s64 s65 s66 s67 s68 s69 s70 s71 s72 s73 s74 s75 s76 s77 s78 s79 s80 s81 s82 s83 s84 s85 s86 s87 s88 s89 s90 s91 s92 s93 s94 s95 s96 s97 s98 s99 s100 s101 s102 s103 s104 s105 s106 s107 s108 s109 s110 s111 s112 s113 s114 s115 s116 s117 s118 s119 s120 s121 s122 s123 s124 s125 s126 s127 s128 s129 s130 s131 s132 s133 s134 s135 s136 : Value)
    (hQ : ∀ (v8 v9 v10 v11 v12 v73 v74 v75 v76 v77 v78 v79 v80 v81 v82 v83 v84 v85 v86 v87 v88 v89 v90 v91 v92 v93 v94 v95 v96 v97 v98 v99 v100 v101 v102 v103 v104 v105 v106 v107 v108 v109 v110 v111 v112 v113 v114 v115 v116 v117 v118 v119 v120 v121 v122 v123 v124 v125 v126 v127 v128 v129 v130 v131 v132 v133 v134 v135 v136 : Value) (w1 : World) (E : Nat → Bool), w0.grownBy w1 (some P.EN) → w1.rowIs P.EN 4 D.n (fun i => .bool (E i)) → tryL G (V G) v E0 (prefL D seed rank R v) = (none, E) → Q .normal ⟨#[.pointer (some ⟨P.mp, 0, none⟩), .int .i64 (v : Int), s2, s3, .slice none 0 0, .slice a (candE D seed rank R v).length c, s6, .slice (some ⟨UB, 0, none⟩) (candE D seed rank R v).length (candE D seed rank R v).length, v8, v9, v10, v11, v12, s13, s14, s15, s16, s17, s18, s19, s20, s21, s22, s23, s24, s25, s26, s27, s28, s29, s30, s31, s32, s33, s34, s35, s36, s37, s38, s39, s40, s41, s42, s43, s44, s45, s46, s47, s48, s49, s50, s51, s52, s53, s54, s55, s56, s57, s58, s59, s60, s61, s62, s63, s64, s65, s66, s67, s68, s69, s70, s71, s72, v73, v74, v75, v76, v77, v78, v79, v80, v81, v82, v83, v84, v85, v86, v87, v88, v89, v90, v91, v92, v93, v94, v95, v96, v97, v98, v99, v100, v101, v102, v103, v104, v105, v106, v107, v108, v109, v110, v111, v112, v113, v114, v115, v116, v117, v118, v119, v120, v121, v122, v123, v124, v125, v126, v127, v128, v129, v130, v131, v132, v133, v134, v135, v136], []⟩ w1)
    (hR : ∀ (v8 v9 v10 v11 v12 v73 v74 v75 v76 v77 v78 v79 v80 v81 v82 v83 v84 v85 v86 v87 v88 v89 v90 v91 v92 v93 v94 v95 v96 v97 v98 v99 v100 v101 v102 v103 v104 v105 v106 v107 v108 v109 v110 v111 v112 v113 v114 v115 v116 v117 v118 v119 v120 v121 v122 v123 v124 v125 v126 v127 v128 v129 v130 v131 v132 v133 v134 v135 v136 : Value) (w1 : World) (E : Nat → Bool) (p : List Nat) (u : Value), w0.grownBy w1 (some P.EN) → w1.rowIs P.EN 4 D.n (fun i => .bool (E i)) → tryL G (V G) v E0 (prefL D seed rank R v) = (some p, E) → p ≠ [] → w1.ownsRow w0.heap.size 3 1 u p.length (iv p) → Q .ret ⟨#[.pointer (some ⟨P.mp, 0, none⟩), .int .i64 (v : Int), s2, s3, u, .slice a (candE D seed rank R v).length c, s6, .slice (some ⟨UB, 0, none⟩) (candE D seed rank R v).length (candE D seed rank R v).length, v8, v9, v10, v11, v12, s13, s14, s15, s16, s17, s18, s19, s20, s21, s22, s23, s24, s25, s26, s27, s28, s29, s30, s31, s32, s33, s34, s35, s36, s37, s38, s39, s40, s41, s42, s43, s44, s45, s46, s47, s48, s49, s50, s51, s52, s53, s54, s55, s56, s57, s58, s59, s60, s61, s62, s63, s64, s65, s66, s67, s68, s69, s70, s71, s72, v73, v74, v75, v76, v77, v78, v79, v80, v81, v82, v83, v84, v85, v86, v87, v88, v89, v90, v91, v92, v93, v94, v95, v96, v97, v98, v99, v100, v101, v102, v103, v104, v105, v106, v107, v108, v109, v110, v111, v112, v113, v114, v115, v116, v117, v118, v119, v120, v121, v122, v123, v124, v125, v126, v127, v128, v129, v130, v131, v132, v133, v134, v135, v136], []⟩ w1) :
    Code.wp Ybaf.prog ((Ybaf.f9.body.bind (findLoop 13)).getD .skip) (Exit.inBlock 2 Q) ⟨#[.pointer (some ⟨P.mp, 0, none⟩), .int .i64 (v : Int), s2, s3, .slice none 0 0, .slice a (candE D seed rank R v).length c, s6, .slice (some ⟨UB, 0, none⟩) (candE D seed rank R v).length (candE D seed rank R v).length, .int .i64 0, s9, s10, s11, s12, s13, s14, s15, s16, s17, s18, s19, s20, s21, s22, s23, s24, s25, s26, s27, s28, s29, s30, s31, s32, s33, s34, s35, s36, s37, s38, s39, s40, s41, s42, s43, s44, s45, s46, s47, s48, s49, s50, s51, s52, s53, s54, s55, s56, s57, s58, s59, s60, s61, s62, s63, s64, s65, s66, s67, s68, s69, s70, s71, s72, s73, s74, s75, s76, s77, s78, s79, s80, s81, s82, s83, s84, s85, s86, s87, s88, s89, s90, s91, s92, s93, s94, s95, s96, s97, s98, s99, s100, s101, s102, s103, s104, s105, s106, s107, s108, s109, s110, s111, s112, s113, s114, s115, s116, s117, s118, s119, s120, s121, s122, s123, s124, s125, s126, s127, s128, s129, s130, s131, s132, s133, s134, s135, s136], []⟩ w := by
  have hps := prefL_perm (D := D) (seed := seed) (rank := rank) (R := R) (v := v)
  have hplen := hps.length_eq
  have hL1 : ∀ e ∈ candE D seed rank R v, e < D.m := fun e he => (mem_candE.1 he).1
  have hL2 : (candE D seed rank R v).length ≤ 2048 := by have := prefL_len (D := D) (seed := seed) (rank := rank) (R := R) (v := v); have := hD.hm; omega
  have HBE := hid (fun (t : Nat) (b : Option Nat) ht h => best_end (D := D) (seed := seed) (rank := rank) (R := R) (v := v) (t := t) (b := b) hD hinj ht h)
  have HUS := hid (fun (t i : Nat) ht hi he => used_step (D := D) (seed := seed) (rank := rank) (R := R) (v := v) (t := t) (i := i) ht hi he)
  have hPR : ∀ e ∈ prefL D seed rank R v, D.src e < D.n := fun e he => hD.sl e (mem_prefL.1 he).1
  have hPM : ∀ e ∈ prefL D seed rank R v, e < D.m := fun e he => (mem_prefL.1 he).1
  obtain ⟨L, hL⟩ : ∃ L, L = candE D seed rank R v := ⟨_, rfl⟩
  obtain ⟨pr, hpr⟩ : ∃ pr, pr = prefL D seed rank R v := ⟨_, rfl⟩
  rw [← hL] at hV0 hplen hL1 hL2 HBE HUS ⊢
  rw [← hL, ← hpr] at hQ hR
  rw [← hpr] at hplen HBE HUS hPR hPM
  have HD := hid hD
  have HM := hid hM
  have HVI := hid HV
  have HGs := hid hGs
  have HGn := hid hGn
  clear hL hpr hps hGp hinj HV hD hM hGs hGn
  conv => arg 2; whnf
  conv => arg 4; dsimp only
  go_loopw [4, 8] (fun r x wr => ∃ (t : Nat) (E : Nat → Bool), r = .slice none 0 0 ∧ t ≤ L.length ∧ x = .int .i64 t ∧ Vl w0 wr P.EN D.n L a UB (usedAt L pr t) E ∧ tryL G (V G) v E0 pr = tryL G (V G) v E (pr.drop t) ∧ cnt D.n E ≤ N) (fun _ x _ => L.length - (intOf x).toNat)
  case atStart => exact ⟨0, E0, rfl, Nat.zero_le _, rfl, ⟨hV0.gr, hV0.en, hV0.ca, hV0.us.congr fun i _ => by simp [usedAt], hV0.lo, hV0.el⟩, rfl, hcn⟩
  case round =>
    clear hV0 hcn
    obtain ⟨t, E, rfl, ht, rfl, hV, hT, hcn⟩ := hrel
    have HQ := hid hQ
    have HR := hid hR
    clear hQ hR
    by_cases hlt : t < L.length
    · have HV := hid hV
      have HT := hid hT
      have HCN := hid hcn
      clear hV hT hcn
      go_wp2_with fail
      refine visLoop3 wr P D HD.out seed R rank (HM.out.keep HV.out.gr) L hL1 hL2 a c (fun j h => by obtain ⟨b, e, _, _, hc⟩ := HV.out.ca j h; exact ⟨b, e, hc⟩) UB (usedAt L pr t) (fun i hi => HV.out.us.cell hi) _ _ _ _ _ _ _ _ _ _ _ _ _ _ _ _ _ _ _ _ _ _ _ _ _ _ _ _ _ _ _ _ _ _ _ _ _ _ _ _ _ _ _ _ _ _ _ _ _ _ _ _ _ _ _ _ _ _ _ _ _ _ _ _ _ _ _ _ _ _ _ _ _ _ _ _ _ _ _ _ _ _ _ _ _ _ _ _ _ _ _ _ _ _ _ _ _ _ _ _ _ _ _ _ _ _ _ _ _ _ _ _ _ _ _ _ _ _ _ _ _ _ _ _ _ _ _ _ _ _ _ _ ?_
      intro y10 y81 y82 y83 y84 y85 y86 y87 y88 y89 y90 y91 y92 y93 y94 y95 y96 y97 y98 y99 y100 y101 y102 y103 y104 y105 y106 b d hbest
      obtain ⟨i, rfl, hi, hie⟩ := HBE.out t b hlt hbest
      clear hbest
      obtain ⟨W1, hW1⟩ : ∃ W1, W1 = wr.drewN d := ⟨_, rfl⟩
      have hV1 : Vl w0 W1 P.EN D.n L a UB (usedAt L pr t) E := by rw [hW1]; exact HV.out.drewN d
      rw [← hW1]
      obtain ⟨W2, hW2⟩ : ∃ W2, W2 = W1.setCell ⟨UB, i, none⟩ (.bool true) := ⟨_, rfl⟩
      have hV2 : Vl w0 W2 P.EN D.n L a UB (usedAt L pr (t + 1)) E := by rw [hW2]; exact hV1.use (HUS.out t i hlt hi hie)
      have z1 := hV1.us.cell hi
      have z2 := hV1.us.frozen i
      have hM2 := HM.out.keep hV2.gr
      obtain ⟨cb, rfl, _, _, c1⟩ := hV2.ca i hi
      have htp : t < pr.length := by omega
      obtain ⟨e, he⟩ : ∃ e, e = pr[t] := ⟨_, rfl⟩
      have hLe : L[i] = e := by rw [← getD_get hi, hie, getD_get htp, he]
      have hem : e < D.m := by rw [he]; exact hPM _ (List.getElem_mem htp)
      have hen : D.src e < D.n := by rw [he]; exact hPR _ (List.getElem_mem htp)
      rw [hLe] at c1
      obtain ⟨sb, hsb, _, hsc⟩ := hM2.sr e hem
      have g0 := hM2.c0
      rw [hsb] at g0
      have x1 := hsc e hem
      have g6 := hM2.c6
      have hTRY : tryL G (V G) v E0 pr = if E (D.src e) = true then tryL G (V G) v E (pr.drop (t + 1)) else match V G E (D.src e) with
          | (some p, E1) => (some (p ++ [v]), E1)
          | (none, E1) => tryL G (V G) v E1 (pr.drop (t + 1)) := by
        rw [HT.out, List.drop_eq_getElem_cons htp, ← he, tryL_cons, HGs.out]
        rfl
      obtain ⟨u, hu⟩ : ∃ u, u = D.src e := ⟨_, rfl⟩
      rw [← hu] at x1 hen hTRY
      have g7 := hV2.en.cell hen
      have HVC := hid (fun W hM h1 h2 => HVI.out W E u hM h1 hen h2 HCN.out)
      obtain ⟨Eu, hEu⟩ : ∃ b, b = E u := ⟨_, rfl⟩
      rw [← hEu] at g7 hTRY
      have HEU := hid hEu
      have HTRY := hid hTRY
      have HV2 := hid hV2
      have HM2 := hid hM2
      have HW2 := hid hW2
      have i0 : (0 : Int) ≤ (i : Int) := by omega
      have i1 : (i : Int) < (L.length : Int) := by omega
      have e0 : (0 : Int) ≤ (e : Int) := by omega
      have e1 : (e : Int) < (D.m : Int) := by omega
      have u0 : (0 : Int) ≤ (u : Int) := by omega
      have u1 : (u : Int) < (D.n : Int) := by omega
      rw [show toV (some i) = .int .i64 (i : Int) from rfl]
      clear hTRY hEu hV1 hV2 hM2 hW1 hW2 hsb hsc hLe he hu hie HV HBE HUS hL1 hPR hPM HT
      cases Eu with
      | true =>
        go_wp2_with fail
        rw [← HW2.out]
        go_quiet (fail)
        obtain ⟨W3, hW3⟩ : ∃ W3, W3 = W2.drewN nq := ⟨_, rfl⟩
        have hcw3 : ∀ p, W3.cell? p = W2.cell? p := fun p => by rw [hW3]; rfl
        have HV3 : Hid (Vl w0 W3 P.EN D.n L (some ⟨cb, 0, none⟩) UB (usedAt L pr (t + 1)) E) := hid (by rw [hW3]; exact HV2.out.drewN nq)
        rw [← hW3]
        clear hW3 HW2 z1 z2 HV2
        go_wp2
        go_roundw
        case rel => exact ⟨t + 1, E, rfl, by omega, by go_num, HV3.out, by rw [HTRY.out, if_pos (by simp)], HCN.out⟩
        case measure => simp [intOf]; omega
      | false =>
        go_wp2_with fail
        rw [← HW2.out]
        go_quiet (fail)
        obtain ⟨W3, hW3⟩ : ∃ W3, W3 = W2.drewN nq := ⟨_, rfl⟩
        have hcw3 : ∀ p, W3.cell? p = W2.cell? p := fun p => by rw [hW3]; rfl
        have HV3 : Hid (Vl w0 W3 P.EN D.n L (some ⟨cb, 0, none⟩) UB (usedAt L pr (t + 1)) E) := hid (by rw [hW3]; exact HV2.out.drewN nq)
        have HC3 := hid (HVC.out W3 (HM2.out.keep (by rw [hW3]; exact grown_of_below (below_drewN (Below.refl _ _) nq) _)) HV3.out.en HEU.out.symm)
        rw [← hW3]
        clear hW3 HW2 z1 z2 HV2 HVC
        go_wp2_with fail
        refine (HC3.out).mono ?_
        rintro r w4 ⟨hg4, hen4, pv, rfl, hres⟩
        have HV4 := hid (HV3.out.keep hg4 hen4)
        clear HC3 hg4 hen4 hcw3 g0 g6 g7 x1 c1
        rcases hres with ⟨hr1, rfl⟩ | ⟨p, hr1, hpn, hown⟩
        · have HTR2 : Hid (tryL G (V G) v E0 pr = tryL G (V G) v (V G E u).2 (pr.drop (t + 1))) := hid (by
            rw [HTRY.out, if_neg (by simp)]
            generalize V G E u = r at hr1
            cases r with
            | mk r1 r2 => cases hr1; rfl)
          have HCN2 : Hid (cnt D.n (V G E u).2 ≤ N) := hid (Nat.le_trans (cnt_mono _ (fun x h => V_mono E u x h)) HCN.out)
          clear hr1 HTRY HV3
          go_wp2
          go_roundw
          case rel => exact ⟨t + 1, (V G E u).2, rfl, by omega, by go_num, HV4.out, HTR2.out, HCN2.out⟩
          case measure => simp [intOf]; omega
        · have HTR2 : Hid (tryL G (V G) v E0 pr = (some (p ++ [v]), (V G E u).2)) := hid (by
            rw [HTRY.out, if_neg (by simp)]
            generalize V G E u = r at hr1
            cases r with
            | mk r1 r2 => cases hr1; rfl)
          have hplen2 : p.length ≤ 300 := by
            have h1 := (V_len E u p hr1).2
            have h2 := HD.out.hn
            have h3 := HGn.out
            omega
          have hpos : p.length ≠ 0 := fun e => hpn (List.length_eq_zero_iff.1 e)
          obtain ⟨g, cap, rfl⟩ : ∃ g cap, pv = .slice (some ⟨g, 0, none⟩) p.length cap := by
            rcases hown.2 with ⟨_, e2⟩ | ⟨g, cap, cur, e, _⟩
            · exact absurd e2 hpos
            · exact ⟨g, cap, e⟩
          have hw03 : w0.heap.size ≤ W3.heap.size := HV3.out.gr.size
          have hgl := hown.lt g rfl
          have hown0 : w4.ownsRow w0.heap.size 3 1 (.slice (some ⟨g, 0, none⟩) p.length cap) p.length (iv p) := by
            refine ⟨hown.1, ?_⟩
            rcases hown.2 with h | ⟨g', cap', cur, e, hb, hh⟩
            · exact .inl h
            · exact .inr ⟨g', cap', cur, e, by omega, hh⟩
          have hbs4 : w0.heap.size ≤ w4.heap.size := HV4.out.gr.size
          have HFI : Hid (∀ (w5 : World) (g2 cap2 : Nat), w5.ownsRow w0.heap.size 3 1 (.slice (some ⟨g2, 0, none⟩) (p.length + 1) cap2) (p.length + 1) (iv p ++ [.int .i64 (v : Int)]) → w4.grownBy w5 (some g) → w0.grownBy w5 (some P.EN) ∧ w5.rowIs P.EN 4 D.n (fun i => .bool ((V G E u).2 i)) ∧ w5.ownsRow w0.heap.size 3 1 (.slice (some ⟨g2, 0, none⟩) (p.length + 1) cap2) (p ++ [v]).length (iv (p ++ [v]))) := hid (fun w5 g2 cap2 h1 h2 => by
            have hel := HV4.out.el
            refine ⟨grown_own HV4.out.gr h2 (fun k hk => by cases hk; omega), HV4.out.en.of_block (h2.block _ HV4.out.en.lt (fun e => by injection e; omega)), ?_⟩
            rw [iv_append, List.length_append]
            exact h1)
          clear hr1 HTRY HV3 hown hpos hpn
          go_wp2_with ((at_builtin; refine wpList_append_at (wr := w4) rfl (.tmp 133) (.tmp 135) 27 rfl 3 (.int .i64 0) 1 8 Ybaf.underlying27 info3 rfl (by omega) (by omega) (.slice (some ⟨g, 0, none⟩) p.length cap) p.length (iv p) rfl w0.heap.size hown0 hbs4 [.int .i64 (v : Int)] rfl (by simp [Value.oneCell']) w4.heap.size rfl rfl (by omega) ?_; intro g2 cap2 w5 ho5 hgr5 hat5))
          obtain ⟨f1, f2, f3⟩ := HFI.out w5 g2 cap2 ho5 hgr5
          refine HR.out _ _ _ _ _ _ _ _ _ _ _ _ _ _ _ _ _ _ _ _ _ _ _ _ _ _ _ _ _ _ _ _ _ _ _ _ _ _ _ _ _ _ _ _ _ _ _ _ _ _ _ _ _ _ _ _ _ _ _ _ _ _ _ _ _ _ _ _ _ w5 _ (p ++ [v]) _ f1 f2 HTR2.out (by simp) f3
    · have e : t = L.length := by omega
      subst e
      rw [List.drop_eq_nil_of_le (by omega)] at hT
      have HV := hid hV
      have HT := hid hT
      clear hV hT hcn
      go_wp2
      exact HQ.out _ _ _ _ _ _ _ _ _ _ _ _ _ _ _ _ _ _ _ _ _ _ _ _ _ _ _ _ _ _ _ _ _ _ _ _ _ _ _ _ _ _ _ _ _ _ _ _ _ _ _ _ _ _ _ _ _ _ _ _ _ _ _ _ _ _ _ _ _ wr E HV.out.gr HV.out.en HT.out

end Go.Proofs.YbulkectmFmt.A
