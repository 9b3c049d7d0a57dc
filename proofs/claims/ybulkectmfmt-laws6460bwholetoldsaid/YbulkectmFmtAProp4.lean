import Derived.Test.YbulkectmFmtAProp12
namespace Go.Proofs.YbulkectmFmt.A
set_option linter.unusedVariables false
set_option linter.unusedSimpArgs false
open Go.RowKit Go.Deep
attribute [local go_sem ↓] toBo41

/-- A propagation with its counts. -/
structure Pst (w wr : World) (C : PC) (seed : Nat → Bool) (s : FS) (v : Value) (AB : Nat) : Prop where
  f : Fst w wr C seed s.rank s.order v
  ab : wr.rowIs AB 3 C.n (fun i => .int .i64 ((s.acc i : Nat) : Int))
  hab : C.ov < AB
  ne : v.ownBlock ≠ some AB

section
variable {w wr : World} {C : PC} {seed : Nat → Bool} {s : FS} {v : Value} {AB : Nat}

theorem Pst.keep (h : Pst w wr C seed s v AB) {wx : World} (hb : Below wr.heap.size wr wx) : Pst w wx C seed s v AB :=
  ⟨h.f.keep hb, h.ab.of_block (hb.block _ h.ab.lt), h.hab, h.ne⟩

/-- 'accepted[x]++'. -/
theorem Pst.incr (h : Pst w wr C seed s v AB) (x : Nat) : Pst w (wr.setCell ⟨AB, x, none⟩ (.int .i64 (((s.acc x + 1 : Nat)) : Int))) C seed ⟨s.rank, s.order, upd s.acc x (s.acc x + 1)⟩ v AB := by
  obtain ⟨l1, l2, l3, l4, l5, l6, l7, l8⟩ := h.f.lo
  have hab := h.hab
  have hlt := h.ab.lt
  have hb : ∀ k, k ≠ AB → (wr.setCell ⟨AB, x, none⟩ (.int .i64 (((s.acc x + 1 : Nat)) : Int))).heap[k]? = wr.heap[k]? := fun k hk => blk_setCell_other _ _ _ _ (by simpa using hk)
  refine ⟨⟨h.f.below.setCell (by simp; omega) _, (hb _ (by omega)).trans h.f.hfv, (hb _ (by omega)).trans h.f.hfp, h.f.sd.of_block (hb _ (by omega)), h.f.rk.of_block (hb _ (by omega)), (hb _ (by omega)).trans h.f.hov, ?_, h.f.lo⟩, (h.ab.set x _).congr fun i _ => ?_, hab, h.ne⟩
  · exact h.f.own.kept (row := some AB) ⟨rfl, rfl, rfl, by rw [nblk_setCell]; exact Nat.le_refl _, fun k _ hk => hb k (fun e => hk (by rw [e]))⟩ (.inr h.ne)
  · by_cases e : i = x
    · subst e; simp [upd]
    · simp [upd, e]
end

set_option maxRecDepth 1000000 in
set_option maxHeartbeats 8000000 in
/-- 'for _, e := range g.out[order[i]] { .. }'. -/
theorem propLoop4 (w wr : World) (M : GM) (D : GD) (hD : D.Ok) (hG : Gr w M D) (C : PC) (hCs : C.s = w.heap.size) (hCn : C.n = D.n) (seed : Nat → Bool) (AB : Nat) (s0 : FS) (hI : FInv D s0) (v0 : Value) (h0 : Pst w wr C seed s0 v0 AB)
    (a : Option Addr) (c : Nat) (l : List Nat) (hl : ∀ e ∈ l, e < D.m) (hll : l.length ≤ 2048) (hrow : ∀ wx, Below w.heap.size w wx → ∀ j (h : j < l.length), ∃ b o, a = some ⟨b, o, none⟩ ∧ wx.cell? ⟨b, o + j, none⟩ = some (.int .i64 ((l[j] : Nat) : Int)))
    (Q : Exit → Act → World → Prop) (s1 s3 s4 s5 s6 s8 s9 s10 s12 s14 s15 s16 s17 s18 s19 s20 s21 s22 s23 s24 s25 s26 s27 s28 s29 s30 s31 s32 s33 s34 s35 s36 s37 s38 s39 s40 s41 s42 s43 s44 s45 s46 s47 s48 s49 s50 s51 s52 s53 s54 s55 s56 s57 s58 s59 s60 s61 s62 s63 s64 s65 s66 s67 s68 s69 s70 s71 s72 s73 s74 s75 s76 s77 s78 s79 s80 s81 s82 s83 s84 s85 s86 s87 s88 s89 s90 s91 s92 s96 s97 s98 s99 s100 s101 s102 s103 s104 s105 s106 s107 s108 s109 s110 s111 s112 s113 s114 s115 s116 s117 s118 s119 s120 s121 s122 s123 s124 s125 s126 s127 s128 s129 s130 s131 s132 s133 s134 s135 s136 s137 s138 s139 s140 s141 s142 s143 s144 s145 s146 s147 s148 s149 : Value)
    (hQ : ∀ (v16 v17 v95 v96 v97 v98 v99 v100 v101 v102 v103 v104 v105 v106 v107 v108 v109 v110 v111 v112 v113 v114 v115 v116 v117 v118 v119 v120 v121 v122 v123 v124 v125 v126 v127 v128 v129 v130 v131 v132 v133 v134 v135 v136 v137 v138 v139 v140 v141 v142 v143 v144 v145 v146 v147 v148 : Value) (w1 : World) (v : Value), Pst w w1 C seed (l.foldl (edgeS D) s0) v AB → Q .normal ⟨#[.pointer (some ⟨M.gp, 0, none⟩), s1, .float .f64 4602678819172646912, s3, s4, s5, s6, .pointer (some ⟨C.fv, 0, none⟩), s8, s9, s10, .func (.func 17) #[] #[.pointer (some ⟨C.ov, 0, none⟩), .pointer (some ⟨C.fv, 0, none⟩)], s12, .slice (some ⟨AB, 0, none⟩) C.n C.n, s14, s15, v16, v17, s18, s19, s20, s21, s22, s23, s24, s25, s26, s27, s28, s29, s30, s31, s32, s33, s34, s35, s36, s37, s38, s39, s40, s41, s42, s43, s44, s45, s46, s47, s48, s49, s50, s51, s52, s53, s54, s55, s56, s57, s58, s59, s60, s61, s62, s63, s64, s65, s66, s67, s68, s69, s70, s71, s72, s73, s74, s75, s76, s77, s78, s79, s80, s81, s82, s83, s84, s85, s86, s87, s88, s89, s90, s91, s92, .slice a l.length c, .int .i64 (l.length : Int), v95, v96, v97, v98, v99, v100, v101, v102, v103, v104, v105, v106, v107, v108, v109, v110, v111, v112, v113, v114, v115, v116, v117, v118, v119, v120, v121, v122, v123, v124, v125, v126, v127, v128, v129, v130, v131, v132, v133, v134, v135, v136, v137, v138, v139, v140, v141, v142, v143, v144, v145, v146, v147, v148, s149], []⟩ w1) :
    Code.wp Ybaf.prog ((Ybaf.f12.body.bind (findLoop 21)).getD .skip) (Exit.inBlock 6 Q) ⟨#[.pointer (some ⟨M.gp, 0, none⟩), s1, .float .f64 4602678819172646912, s3, s4, s5, s6, .pointer (some ⟨C.fv, 0, none⟩), s8, s9, s10, .func (.func 17) #[] #[.pointer (some ⟨C.ov, 0, none⟩), .pointer (some ⟨C.fv, 0, none⟩)], s12, .slice (some ⟨AB, 0, none⟩) C.n C.n, s14, s15, s16, s17, s18, s19, s20, s21, s22, s23, s24, s25, s26, s27, s28, s29, s30, s31, s32, s33, s34, s35, s36, s37, s38, s39, s40, s41, s42, s43, s44, s45, s46, s47, s48, s49, s50, s51, s52, s53, s54, s55, s56, s57, s58, s59, s60, s61, s62, s63, s64, s65, s66, s67, s68, s69, s70, s71, s72, s73, s74, s75, s76, s77, s78, s79, s80, s81, s82, s83, s84, s85, s86, s87, s88, s89, s90, s91, s92, .slice a l.length c, .int .i64 (l.length : Int), .int .i64 0, s96, s97, s98, s99, s100, s101, s102, s103, s104, s105, s106, s107, s108, s109, s110, s111, s112, s113, s114, s115, s116, s117, s118, s119, s120, s121, s122, s123, s124, s125, s126, s127, s128, s129, s130, s131, s132, s133, s134, s135, s136, s137, s138, s139, s140, s141, s142, s143, s144, s145, s146, s147, s148, s149], []⟩ wr := by
  conv => arg 2; whnf
  conv => arg 4; dsimp only
  go_loopw [95] (fun i wr => ∃ (j : Nat) (v : Value), j ≤ l.length ∧ i = .int .i64 j ∧ Pst w wr C seed ((l.take j).foldl (edgeS D) s0) v AB) (fun i _ => l.length - (intOf i).toNat)
  case atStart => exact ⟨0, v0, Nat.zero_le _, rfl, h0⟩
  case round =>
    clear h0
    obtain ⟨j, v, hj, rfl, hP⟩ := hrel
    by_cases hlt : j < l.length
    · have hBw : Below w.heap.size w wr := by rw [← hCs]; exact hP.f.below
      obtain ⟨b, o, rfl, c0⟩ := hrow wr hBw j hlt
      obtain ⟨e, he⟩ : ∃ e, e = l[j] := ⟨_, rfl⟩
      have hem : e < D.m := by rw [he]; exact hl _ (List.getElem_mem hlt)
      rw [← he] at c0
      have hfold : (l.take (j + 1)).foldl (edgeS D) s0 = edgeS D ((l.take j).foldl (edgeS D) s0) e := by
        rw [List.take_succ_eq_append_getElem hlt, List.foldl_append, ← he]
        rfl
      have hIs : FInv D ((l.take j).foldl (edgeS D) s0) := FInv.foldE hD _ (fun x hx => hl x (List.mem_of_mem_take hx)) _ hI
      obtain ⟨s, hs⟩ : ∃ s, s = (l.take j).foldl (edgeS D) s0 := ⟨_, rfl⟩
      rw [← hs] at hP hfold hIs
      have hxn := hD.dl e hem
      have hql := hD.ql e hem
      have hwl := (hD.wl _ hxn).2
      obtain ⟨eb, hea, hee⟩ := hG.edg e hem
      have g1 := cell_old hBw hG.c1
      have g2 := cell_old hBw hG.c2
      rw [hea] at g2
      have g5 := cell_old hBw hG.c5
      have x1 := cell_old hBw (hG.ds e hem)
      have x2 := cell_old hBw (hee e hem).2.2
      have x3 := cell_old hBw (hG.nwt _ hxn)
      have hIlen := hIs.len
      have hn3 := hD.hn
      have hacc := hIs.ac _ hxn
      obtain ⟨x, hx⟩ : ∃ x, x = D.dst e := ⟨_, rfl⟩
      have hed : edgeS D s e = if (decide (0 ≤ s.rank x) || decide (D.q e < 2)) = true then s else if D.wt x ≤ s.acc x + 1 then fireS ⟨s.rank, s.order, upd s.acc x (s.acc x + 1)⟩ x else ⟨s.rank, s.order, upd s.acc x (s.acc x + 1)⟩ := by rw [hx]; rfl
      rw [← hx] at x1 x3 hxn hwl hacc
      obtain ⟨d1, d2, d3, d4, d5⟩ := hP.f.cells
      have hxC : x < C.n := by rw [hCn]; exact hxn
      have r1 := hP.f.rk.cell hxC
      have a1 := hP.ab.cell hxC
      have a2 := hP.ab.frozen x
      have hP1 := hP.incr x
      obtain ⟨W1, hW1⟩ : ∃ W1, W1 = wr.setCell ⟨AB, x, none⟩ (.int .i64 ((s.acc x : Int) + 1)) := ⟨_, rfl⟩
      rw [show (((s.acc x + 1 : Nat)) : Int) = (s.acc x : Int) + 1 by omega, ← hW1] at hP1
      have hBw1 : Below w.heap.size w W1 := by rw [← hCs]; exact hP1.f.below
      have z1 := cell_old hBw1 hG.c1
      have z3 := cell_old hBw1 (hG.nwt _ (hD.dl e hem))
      rw [← hx] at z3
      have z4 : W1.cell? ⟨AB, x, none⟩ = some (.int .i64 ((s.acc x : Int) + 1)) := by
        have h := hP1.ab.cell hxC
        rw [show (FS.acc ⟨s.rank, s.order, upd s.acc x (s.acc x + 1)⟩ x) = s.acc x + 1 from upd_same _ _ _] at h
        exact h
      have hle : s.order.length ≤ 1000 := by have h1 := hIs.len; have h2 := hD.hn; omega
      have HFI2f := hid (fun nq => fire_any (hP1.keep (wx := W1.drewN nq) (below_drewN (Below.refl _ _) nq)).f x hxC hle)
      have b1 := fun W => fl_lss2 (D.q e) hql.1 hql.2 W
      have HFO := hid hfold
      have HED := hid hed
      have HP := hid hP
      have HP1 := hid hP1
      have HACC := hid hacc
      have HBw := hid hBw
      have HG := hid hG
      obtain ⟨gp, hgp⟩ : ∃ gp, gp = M.gp := ⟨_, rfl⟩
      obtain ⟨NB, hNB⟩ : ∃ gp, gp = M.NB := ⟨_, rfl⟩
      obtain ⟨DB, hDB⟩ : ∃ gp, gp = M.DB := ⟨_, rfl⟩
      obtain ⟨ec, hec⟩ : ∃ gp, gp = M.ec := ⟨_, rfl⟩
      obtain ⟨m, hm⟩ : ∃ gp, gp = D.m := ⟨_, rfl⟩
      obtain ⟨n, hn⟩ : ∃ gp, gp = D.n := ⟨_, rfl⟩
      obtain ⟨q, hq⟩ : ∃ gp, gp = D.q e := ⟨_, rfl⟩
      obtain ⟨wt, hwt⟩ : ∃ gp, gp = D.wt x := ⟨_, rfl⟩
      obtain ⟨ac, hac⟩ : ∃ gp, gp = s.acc x := ⟨_, rfl⟩
      obtain ⟨rr, hrr⟩ : ∃ gp, gp = s.rank x := ⟨_, rfl⟩
      rw [hCn, ← hn] at d2 d3
      rw [← hn] at hxn hIlen
      rw [← hgp, ← hNB, ← hn] at g1
      rw [← hgp, ← hm, ← hec] at g2
      rw [← hgp, ← hDB, ← hm] at g5
      rw [← hDB] at x1
      rw [← hq] at x2 b1 HED
      rw [← hNB, ← hwt] at x3
      rw [← hac] at a1 HP1 HED HACC z4 hW1
      rw [← hgp, ← hNB, ← hn] at z1
      rw [← hNB, ← hwt] at z3
      have HW1 := hid hW1
      rw [← hrr] at r1 HED HACC
      rw [← hwt] at HED HACC hwl
      rw [← hgp] at hQ ⊢
      rw [hCn, ← hn] at hQ ⊢
      rw [← hm] at hem
      have Hn := hid hn
      have HCn := hid hCn
      have HD := hid hD
      have HxC := hid hxC
      have Hhx := hid hx
      clear hW1 hBw1 hgp hNB hDB hec hm hn hq hwt hac hrr hed hfold hP hP1 hacc hIs hBw hG hee hea hCn hxC hs hl he hx hI hD hql
      have i0 : (0 : Int) ≤ (j : Int) := by omega
      have i1 : (j : Int) < (l.length : Int) := by omega
      have e0 : (0 : Int) ≤ (e : Int) := by omega
      have e1 : (e : Int) < (m : Int) := by omega
      have y0 : (0 : Int) ≤ (x : Int) := by omega
      have y1 : (x : Int) < (n : Int) := by omega
      by_cases k1 : 0 ≤ rr
      · have k1' : decide (0 ≤ rr) = true := decide_eq_true k1
        have K1 := hid k1
        go_wp2
        go_roundw
        case rel =>
          refine ⟨j + 1, v, by omega, by go_num, ?_⟩
          rw [HFO.out, HED.out, if_pos (by rw [decide_eq_true (show 0 ≤ rr by have := K1.out; omega)]; rfl)]
          exact HP.out
        case measure => simp [intOf]; omega
      · have k1' : decide (0 ≤ rr) = false := decide_eq_false k1
        have K1 := hid k1
        by_cases k2 : q < 2
        · have k2' : decide (q < 2) = true := decide_eq_true k2
          have K2 := hid k2
          go_wp2
          go_roundw
          case rel =>
            refine ⟨j + 1, v, by omega, by go_num, ?_⟩
            rw [HFO.out, HED.out, if_pos (by rw [decide_eq_true (show q < 2 by have := K2.out; omega)]; simp)]
            exact HP.out
          case measure => simp [intOf]; omega
        · have k2' : decide (q < 2) = false := decide_eq_false k2
          have K2 := hid k2
          have hac3 : ac < 3 := by have := HACC.out (by omega); omega
          have w1' : IntKind.i64.wrap ((ac : Int) + 1) = (ac : Int) + 1 := by rw [IntKind.wrap_i64]; omega
          have z4' : W1.cell? ⟨AB, x, none⟩ = some (.int .i64 ((ac : Int) + 1)) := z4
          clear z4
          by_cases k3 : wt ≤ ac + 1
          · have k3' : decide ((wt : Int) ≤ (ac : Int) + 1) = true := by simp; omega
            have K3 := hid k3
            go_wp2_with fail
            rw [← HW1.out]
            clear HW1
            go_quiet (fail)
            have HFI2 := hid (show Calls _ _ _ (W1.drewN nq) _ from HFI2f.out nq)
            clear HFI2f
            go_wp2_with fail
            refine (HFI2.out).mono ?_
            rintro e' w' ⟨⟨u, rfl⟩, v', hF', hfr, hvo⟩
            have HF' := hid hF'
            have HFR := hid hfr
            have HVO := hid hvo
            clear HFI2 hF' hfr hvo
            go_wp2
            go_roundw
            case rel =>
              refine ⟨j + 1, v', by omega, by go_num, ?_⟩
              rw [HFO.out, HED.out, if_neg (by rw [decide_eq_false (show ¬ 0 ≤ rr by have := K1.out; omega), decide_eq_false (show ¬ q < 2 by have := K2.out; omega)]; simp), if_pos (by have := K3.out; omega)]
              refine ⟨HF'.out, ?_, HP1.out.hab, ?_⟩
              · have hb := HFR.out AB HP1.out.hab HP1.out.ab.lt (fun h => HP1.out.ne h.symm)
                exact HP1.out.ab.of_block hb
              · rcases HVO.out with h | ⟨g', h, hg'⟩
                · rw [h]; exact HP1.out.ne
                · rw [h]
                  intro h2
                  have := HP1.out.ab.lt
                  have h3 : g' = AB := by simpa using h2
                  have h4 : W1.heap.size ≤ g' := hg'
                  omega
            case measure => simp [intOf]; omega
          · have k3' : decide ((wt : Int) ≤ (ac : Int) + 1) = false := by simp; omega
            have K3 := hid k3
            clear HFI2f
            go_wp2_with fail
            rw [← HW1.out]
            clear HW1
            go_quiet (fail)
            have HP2 := hid (HP1.out.keep (wx := W1.drewN nq) (below_drewN (Below.refl _ _) nq))
            go_wp2
            go_roundw
            case rel =>
              refine ⟨j + 1, v, by omega, by go_num, ?_⟩
              rw [HFO.out, HED.out, if_neg (by rw [decide_eq_false (show ¬ 0 ≤ rr by have := K1.out; omega), decide_eq_false (show ¬ q < 2 by have := K2.out; omega)]; simp), if_neg (by have := K3.out; omega)]
              exact HP2.out
            case measure => simp [intOf]; omega
    · have e : j = l.length := by omega
      subst e
      rw [List.take_length] at hP
      clear hCn hCs
      go_wp2
      first | exact hP | exact hQ _ _ _ _ _ _ _ _ _ _ _ _ _ _ _ _ _ _ _ _ _ _ _ _ _ _ _ _ _ _ _ _ _ _ _ _ _ _ _ _ _ _ _ _ _ _ _ _ _ _ _ _ _ _ _ _ wr v hP

end Go.Proofs.YbulkectmFmt.A
