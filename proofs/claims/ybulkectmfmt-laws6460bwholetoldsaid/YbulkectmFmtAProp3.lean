import Derived.Test.YbulkectmFmtAProp4
import Derived.Test.YbulkectmFmtAReg1
namespace Go.Proofs.YbulkectmFmt.A
set_option linter.unusedVariables false
set_option linter.unusedSimpArgs false
open Go.RowKit Go.Deep

theorem row_ints {w : World} {a : Option Addr} {c : Nat} {l : List Nat} (h : Row w (.slice a l.length c) l.length (ints l)) : ∀ wx, Below w.heap.size w wx → ∀ j (h : j < l.length), ∃ b o, a = some ⟨b, o, none⟩ ∧ wx.cell? ⟨b, o + j, none⟩ = some (.int .i64 ((l[j] : Nat) : Int)) := by
  intro wx hb j hj
  obtain ⟨a', c', e, hh⟩ := h
  cases e
  obtain ⟨b, o, ea, hc⟩ := hh j hj
  refine ⟨b, o, ea, cell_old hb ?_⟩
  rw [hc j hj]
  unfold ints
  rw [List.getD_eq_getElem?_getD, List.getElem?_eq_getElem hj]
  rfl

theorem iv_getD (l : List Nat) (j : Nat) (hj : j < l.length) : (iv l).getD j undef = ints l j := by
  unfold ints
  rw [List.getD_eq_getElem?_getD, iv_get hj, List.getD_eq_getElem?_getD, List.getElem?_eq_getElem hj]
  rfl
theorem own_row {w : World} {base : Nat} {v : Value} {l : List Nat} (h : w.ownsRow base 3 1 v l.length (iv l)) : Row w v l.length (ints l) := (Row.of_own h).congr fun j hj => iv_getD l j hj
theorem own_int {w : World} {base : Nat} {a : Option Addr} {c : Nat} {l : List Nat} (h : w.ownsRow base 3 1 (.slice a l.length c) l.length (iv l)) : ∀ j (hj : j < l.length), ∃ b o, a = some ⟨b, o, none⟩ ∧ w.cell? ⟨b, o + j, none⟩ = some (.int .i64 ((l[j] : Nat) : Int)) :=
  row_ints (own_row h) w (Below.refl _ _)
theorem edge_len (D : GD) (s : FS) (e : Nat) : s.order.length ≤ (edgeS D s e).order.length := by
  unfold edgeS
  split
  · exact Nat.le_refl _
  · split
    · show _ ≤ (s.order ++ [_]).length
      rw [List.length_append]; omega
    · exact Nat.le_refl _
theorem fold_len (D : GD) : ∀ (l : List Nat) (s : FS), s.order.length ≤ (l.foldl (edgeS D) s).order.length
  | [], s => Nat.le_refl _
  | e :: l, s => Nat.le_trans (edge_len D s e) (fold_len D l _)

set_option maxRecDepth 1000000 in
set_option maxHeartbeats 8000000 in
/-- 'for i := 0; i < len(order); i++ { .. }'. -/
theorem propLoop3 (w wr : World) (M : GM) (D : GD) (hD : D.Ok) (hG : Gr w M D) (C : PC) (hCs : C.s = w.heap.size) (hCn : C.n = D.n) (seed : Nat → Bool) (AB : Nat) (v0 : Value) (h0 : Pst w wr C seed (st D seed 0) v0 AB)
    (Q : Exit → Act → World → Prop) (s1 s3 s4 s5 s6 s8 s9 s12 s15 s16 s17 s18 s19 s20 s21 s22 s23 s24 s25 s26 s27 s28 s29 s30 s31 s32 s33 s34 s35 s36 s37 s38 s39 s40 s41 s42 s43 s44 s45 s46 s47 s48 s49 s50 s51 s52 s53 s54 s55 s56 s57 s58 s59 s60 s61 s62 s63 s64 s65 s66 s67 s68 s69 s70 s71 s72 s73 s74 s75 s76 s77 s78 s79 s80 s81 s82 s83 s84 s85 s86 s87 s88 s89 s90 s91 s92 s93 s94 s95 s96 s97 s98 s99 s100 s101 s102 s103 s104 s105 s106 s107 s108 s109 s110 s111 s112 s113 s114 s115 s116 s117 s118 s119 s120 s121 s122 s123 s124 s125 s126 s127 s128 s129 s130 s131 s132 s133 s134 s135 s136 s137 s138 s139 s140 s141 s142 s143 s144 s145 s146 s147 s148 s149 : Value)
    (hQ : ∀ (v14 v16 v17 v78 v79 v80 v81 v82 v83 v84 v85 v86 v87 v88 v89 v90 v91 v92 v93 v94 v95 v96 v97 v98 v99 v100 v101 v102 v103 v104 v105 v106 v107 v108 v109 v110 v111 v112 v113 v114 v115 v116 v117 v118 v119 v120 v121 v122 v123 v124 v125 v126 v127 v128 v129 v130 v131 v132 v133 v134 v135 v136 v137 v138 v139 v140 v141 v142 v143 v144 v145 v146 v147 v148 : Value) (w1 : World) (v : Value), Pst w w1 C seed (fin D seed) v AB → Q .normal ⟨#[.pointer (some ⟨M.gp, 0, none⟩), s1, .float .f64 4602678819172646912, s3, s4, s5, s6, .pointer (some ⟨C.fv, 0, none⟩), s8, s9, .pointer (some ⟨C.ov, 0, none⟩), .func (.func 17) #[] #[.pointer (some ⟨C.ov, 0, none⟩), .pointer (some ⟨C.fv, 0, none⟩)], s12, .slice (some ⟨AB, 0, none⟩) C.n C.n, v14, s15, v16, v17, s18, s19, s20, s21, s22, s23, s24, s25, s26, s27, s28, s29, s30, s31, s32, s33, s34, s35, s36, s37, s38, s39, s40, s41, s42, s43, s44, s45, s46, s47, s48, s49, s50, s51, s52, s53, s54, s55, s56, s57, s58, s59, s60, s61, s62, s63, s64, s65, s66, s67, s68, s69, s70, s71, s72, s73, s74, s75, s76, s77, v78, v79, v80, v81, v82, v83, v84, v85, v86, v87, v88, v89, v90, v91, v92, v93, v94, v95, v96, v97, v98, v99, v100, v101, v102, v103, v104, v105, v106, v107, v108, v109, v110, v111, v112, v113, v114, v115, v116, v117, v118, v119, v120, v121, v122, v123, v124, v125, v126, v127, v128, v129, v130, v131, v132, v133, v134, v135, v136, v137, v138, v139, v140, v141, v142, v143, v144, v145, v146, v147, v148, s149], []⟩ w1) :
    Code.wp Ybaf.prog ((Ybaf.f12.body.bind (findLoop 18)).getD .skip) (Exit.inBlock 4 Q) ⟨#[.pointer (some ⟨M.gp, 0, none⟩), s1, .float .f64 4602678819172646912, s3, s4, s5, s6, .pointer (some ⟨C.fv, 0, none⟩), s8, s9, .pointer (some ⟨C.ov, 0, none⟩), .func (.func 17) #[] #[.pointer (some ⟨C.ov, 0, none⟩), .pointer (some ⟨C.fv, 0, none⟩)], s12, .slice (some ⟨AB, 0, none⟩) C.n C.n, .int .i64 0, s15, s16, s17, s18, s19, s20, s21, s22, s23, s24, s25, s26, s27, s28, s29, s30, s31, s32, s33, s34, s35, s36, s37, s38, s39, s40, s41, s42, s43, s44, s45, s46, s47, s48, s49, s50, s51, s52, s53, s54, s55, s56, s57, s58, s59, s60, s61, s62, s63, s64, s65, s66, s67, s68, s69, s70, s71, s72, s73, s74, s75, s76, s77, s78, s79, s80, s81, s82, s83, s84, s85, s86, s87, s88, s89, s90, s91, s92, s93, s94, s95, s96, s97, s98, s99, s100, s101, s102, s103, s104, s105, s106, s107, s108, s109, s110, s111, s112, s113, s114, s115, s116, s117, s118, s119, s120, s121, s122, s123, s124, s125, s126, s127, s128, s129, s130, s131, s132, s133, s134, s135, s136, s137, s138, s139, s140, s141, s142, s143, s144, s145, s146, s147, s148, s149], []⟩ wr := by
  conv => arg 2; whnf
  conv => arg 4; dsimp only
  go_loopw [14] (fun x wr => ∃ (i : Nat) (v : Value), i ≤ D.n ∧ x = .int .i64 i ∧ i ≤ (st D seed i).order.length ∧ Pst w wr C seed (st D seed i) v AB) (fun x _ => D.n - (intOf x).toNat)
  case atStart => exact ⟨0, v0, Nat.zero_le _, rfl, Nat.zero_le _, h0⟩
  case round =>
    clear h0
    obtain ⟨i, v, hin, rfl, hio, hP⟩ := hrel
    have hI := FInv.st hD seed i
    have hlen := hI.len
    have hn3 := hD.hn
    obtain ⟨a', c', rfl⟩ := hP.f.shape
    obtain ⟨d1, d2, d3, d4, d5⟩ := hP.f.cells
    by_cases hlt : i < (st D seed i).order.length
    · have hBw : Below w.heap.size w wr := by rw [← hCs]; exact hP.f.below
      obtain ⟨u, hu⟩ : ∃ u, u = (st D seed i).order[i] := ⟨_, rfl⟩
      have hun : u < D.n := by rw [hu]; exact hI.lt _ (List.getElem_mem hlt)
      have hst : st D seed (i + 1) = (outL D u).foldl (edgeS D) (st D seed i) := by
        show roundS D (st D seed i) i = _
        unfold roundS
        rw [List.getElem?_eq_getElem hlt, ← hu]
      obtain ⟨b, o, rfl, c0⟩ := own_int hP.f.own i hlt
      rw [← hu] at c0
      have g7 := cell_old hBw hG.c7
      obtain ⟨go1, go2⟩ := hG.out u hun
      obtain ⟨oa, oc, hov, hrows⟩ := go2
      have g8 := cell_old hBw go1
      rw [hov] at g8
      have hr4 := row_ints (a := oa) (c := oc) (l := outL D u) (w := w) ⟨oa, oc, rfl, hrows⟩
      obtain ⟨L, hL⟩ : ∃ L, L = (st D seed i).order.length := ⟨_, rfl⟩
      rw [← hL] at d4 hlt hio hlen
      have HST := hid hst
      have HP := hid hP
      have HI := hid hI
      have HBw := hid hBw
      have HL := hid hL
      have hG' := hid hG
      have hR4 := hid hr4
      have HCs := hid hCs
      have HCn := hid hCn
      have HD := hid hD
      clear hst hP hI hBw hL hG hrows hr4 hu d1 d2 d3 go1 hCs hCn hD
      have i0 : (0 : Int) ≤ (i : Int) := by omega
      have i1 : (i : Int) < (L : Int) := by omega
      have u0 : (0 : Int) ≤ (u : Int) := by omega
      have u1 : (u : Int) < (D.n : Int) := by omega
      go_wp2_with fail
      go_quiet (fail)
      have HP2 := hid (HP.out.keep (wx := wr.drewN nq) (below_drewN (Below.refl _ _) nq))
      obtain ⟨W2, hW2⟩ : ∃ W2, W2 = wr.drewN nq := ⟨_, rfl⟩
      rw [← hW2] at HP2 ⊢
      clear HP hW2 d4 d5 c0 g7 g8
      go_wp2
      refine propLoop4 w W2 M D HD.out hG'.out C HCs.out HCn.out seed AB (st D seed i) HI.out _ HP2.out oa oc (outL D u) (fun e he => (mem_outL.1 he).1) (Nat.le_trans (outL_len D u) HD.out.hm) hR4.out _ _ _ _ _ _ _ _ _ _ _ _ _ _ _ _ _ _ _ _ _ _ _ _ _ _ _ _ _ _ _ _ _ _ _ _ _ _ _ _ _ _ _ _ _ _ _ _ _ _ _ _ _ _ _ _ _ _ _ _ _ _ _ _ _ _ _ _ _ _ _ _ _ _ _ _ _ _ _ _ _ _ _ _ _ _ _ _ _ _ _ _ _ _ _ _ _ _ _ _ _ _ _ _ _ _ _ _ _ _ _ _ _ _ _ _ _ _ _ _ _ _ _ _ _ _ _ _ _ _ _ _ _ _ _ _ _ _ _ _ _ _ _ ?_
      intro y16 y17 y95 y96 y97 y98 y99 y100 y101 y102 y103 y104 y105 y106 y107 y108 y109 y110 y111 y112 y113 y114 y115 y116 y117 y118 y119 y120 y121 y122 y123 y124 y125 y126 y127 y128 y129 y130 y131 y132 y133 y134 y135 y136 y137 y138 y139 y140 y141 y142 y143 y144 y145 y146 y147 y148 w3 v3 hP3
      rw [← HST.out] at hP3
      have HP3 := hid hP3
      clear hP3 HP2
      go_wp2
      go_roundw
      case rel =>
        refine ⟨i + 1, v3, by omega, by go_num, ?_, HP3.out⟩
        have h1 := HST.out
        have : (st D seed i).order.length ≤ (st D seed (i + 1)).order.length := by
          rw [h1]
          exact fold_len D (outL D u) _
        have h2 := HL.out
        omega
      case measure => simp [intOf]; omega
    · have e : (st D seed i).order.length ≤ i := by omega
      have hfin := fin_of hD seed i e hin
      have eL : (st D seed i).order.length = i := by omega
      rw [hfin] at hP eL d4
      have HP := hid hP
      rw [eL] at d4
      rw [eL] at HP
      clear hP hCn hCs d1 d2 d3 hlt hio hlen e hfin hI
      go_wp2
      first | exact HP.out | exact hQ _ _ _ _ _ _ _ _ _ _ _ _ _ _ _ _ _ _ _ _ _ _ _ _ _ _ _ _ _ _ _ _ _ _ _ _ _ _ _ _ _ _ _ _ _ _ _ _ _ _ _ _ _ _ _ _ _ _ _ _ _ _ _ _ _ _ _ _ _ _ _ _ _ _ wr _ HP.out

end Go.Proofs.YbulkectmFmt.A
