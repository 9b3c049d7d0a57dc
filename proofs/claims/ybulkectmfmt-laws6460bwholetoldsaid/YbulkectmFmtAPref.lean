import Derived.Test.YbulkectmFmtASort
import Derived.Test.YbulkectmFmtAReach
namespace Go.Proofs.YbulkectmFmt.A
set_option linter.unusedVariables false
set_option linter.unusedSimpArgs false
open Go.RowKit Go.Deep

set_option maxHeartbeats 1000000 in
theorem len64_zero (w : World) : Calls Ybaf.prog 40 #[.int .u64 0] w fun e w' => (∃ n : Int, e = .returned (.int .i64 n)) ∧ w' = w := by
  go_enter Ybaf.func40, Ybaf.ntmps40
  go_wp2
  go_ret
  exact ⟨⟨_, rfl⟩, rfl⟩
set_option maxHeartbeats 1000000 in
theorem len_zero (w : World) : Calls Ybaf.prog 28 #[.int .u64 0] w fun e w' => (∃ n : Int, e = .returned (.int .i64 n)) ∧ w' = w := by
  have h := len64_zero w
  go_enter Ybaf.func28, Ybaf.ntmps28
  go_wp2_with fail
  refine h.mono ?_
  rintro e w' ⟨⟨n, rfl⟩, rfl⟩
  go_wp2
  go_ret
  exact ⟨⟨_, rfl⟩, rfl⟩
set_option maxHeartbeats 1000000 in
theorem ins_none (fv : Value) (w : World) : Calls Ybaf.prog 31 #[.slice none 0 0, .int .i64 0, .int .i64 0, fv] w fun e w' => (∃ u, e = .returned u) ∧ w' = w := by
  go_enter Ybaf.func31, Ybaf.ntmps31
  go_wp2
  refine wp_loop_rounds 1 ?_
  rw [rounds_succ]
  go_wp2
  go_end0
  exact ⟨⟨_, rfl⟩, rfl⟩
set_option maxRecDepth 100000 in
set_option maxHeartbeats 1000000 in
theorem pdq_none (fv : Value) (lim : Int) (w : World) : Calls Ybaf.prog 27 #[.slice none 0 0, .int .i64 0, .int .i64 0, .int .i64 lim, fv] w fun e w' => (∃ u, e = .returned u) ∧ w' = w := by
  have h := ins_none fv w
  go_enter Ybaf.func27, Ybaf.ntmps27
  go_wp2
  refine wp_loop_rounds 1 ?_
  rw [rounds_succ]
  go_wp2_with fail
  refine h.mono ?_
  rintro e w' ⟨⟨u, rfl⟩, rfl⟩
  go_wp2
  (try simp only [Exit.inBlock, Exit.then]); refine bodyPost_ret (results_none rfl _ _ _) rfl ?_
  exact ⟨⟨_, rfl⟩, rfl⟩
set_option maxHeartbeats 1000000 in
theorem sort_none (fv : Value) (w : World) : Calls Ybaf.prog 23 #[.slice none 0 0, fv] w fun e w' => (∃ u, e = .returned u) ∧ w' = w := by
  have h := len_zero w
  have h2 := fun lim => pdq_none fv lim w
  have H2 := hid h2
  clear h2
  go_enter Ybaf.func23, Ybaf.ntmps23
  go_wp2_with fail
  refine h.mono ?_
  rintro e w' ⟨⟨n, rfl⟩, rfl⟩
  go_wp2_with fail
  refine (H2.out _).mono ?_
  rintro e w' ⟨⟨u, rfl⟩, rfl⟩
  go_wp2
  go_end0
  exact ⟨⟨_, rfl⟩, rfl⟩

/-- The candidates gathered so far. -/
structure Cst (w0 w wr : World) (gb fb base : Nat) (L : List Nat) (v : Value) : Prop where
  below : Below w.heap.size w wr
  own : wr.ownsRow base 3 1 v L.length (iv L)
  nil : L = [] → v = .slice none 0 0

set_option maxRecDepth 1000000 in
set_option maxHeartbeats 8000000 in
/-- 'for _, e := range g.in[v] { .. }'. w0: the world of the graph; w: behind the two boxes. -/
theorem prefLoop (w0 w : World) (hBw : Below w0.heap.size w0 w) (M : GM) (D : GD) (hD : D.Ok) (hG : Gr w0 M D) (fp SD RK : Nat) (seed : Nat → Bool) (rank : Nat → Int) (hF : Fir w0 fp SD RK D.n seed rank) (RB : Nat) (R : Nat → Bool) (hR : ∀ i, i < D.n → w0.cell? ⟨RB, i, none⟩ = some (.bool (R i)))
    (gb fb : Nat) (hgb : w.cell? ⟨gb, 0, none⟩ = some (.pointer (some ⟨M.gp, 0, none⟩))) (hfb : w.cell? ⟨fb, 0, none⟩ = some (.pointer (some ⟨fp, 0, none⟩)))
    (a : Option Addr) (c : Nat) (l : List Nat) (hl : ∀ e ∈ l, e < D.m) (hll : l.length ≤ 2048) (hrow : ∀ wx, Below w0.heap.size w0 wx → ∀ j (h : j < l.length), ∃ b o, a = some ⟨b, o, none⟩ ∧ wx.cell? ⟨b, o + j, none⟩ = some (.int .i64 ((l[j] : Nat) : Int)))
    (Q : Exit → Act → World → Prop) (s0 s1 s2 s6 s7 s8 s10 s11 s12 s13 s14 s15 s16 s17 s21 s22 s23 s24 s25 s26 s27 s28 s29 s30 s31 s32 s33 s34 s35 s36 s37 s38 s39 s40 s41 s42 s43 s44 s45 s46 s47 s48 : Value)
    (hQ : ∀ (v11 v20 v21 v22 v23 v24 v25 v26 v27 v28 v29 v30 v31 v32 v33 v34 v35 v36 v37 v38 v39 v40 v41 v42 v43 v44 : Value) (w1 : World) (v : Value), Cst w0 w w1 gb fb w.heap.size (l.filter fun e => R (D.src e) && okE D seed rank e) v → Q .normal ⟨#[s0, s1, s2, .slice (some ⟨RB, 0, none⟩) D.n D.n, .pointer (some ⟨gb, 0, none⟩), .pointer (some ⟨fb, 0, none⟩), s6, s7, s8, v, s10, v11, s12, s13, s14, s15, s16, s17, .slice a l.length c, .int .i64 (l.length : Int), v20, v21, v22, v23, v24, v25, v26, v27, v28, v29, v30, v31, v32, v33, v34, v35, v36, v37, v38, v39, v40, v41, v42, v43, v44, s45, s46, s47, s48], []⟩ w1) :
    Code.wp Ybaf.prog ((Ybaf.f20.body.bind (findLoop 3)).getD .skip) (Exit.inBlock 0 Q) ⟨#[s0, s1, s2, .slice (some ⟨RB, 0, none⟩) D.n D.n, .pointer (some ⟨gb, 0, none⟩), .pointer (some ⟨fb, 0, none⟩), s6, s7, s8, .slice none 0 0, s10, s11, s12, s13, s14, s15, s16, s17, .slice a l.length c, .int .i64 (l.length : Int), .int .i64 0, s21, s22, s23, s24, s25, s26, s27, s28, s29, s30, s31, s32, s33, s34, s35, s36, s37, s38, s39, s40, s41, s42, s43, s44, s45, s46, s47, s48], []⟩ w := by
  obtain ⟨pr, hpr⟩ : ∃ pr : Nat → Bool, pr = fun e => R (D.src e) && okE D seed rank e := ⟨_, rfl⟩
  rw [← hpr] at hQ
  conv => arg 2; whnf
  conv => arg 4; dsimp only
  go_loopw [9, 20] (fun v i wr => ∃ (j : Nat), j ≤ l.length ∧ i = .int .i64 j ∧ Cst w0 w wr gb fb w.heap.size ((l.take j).filter pr) v) (fun _ i _ => l.length - (intOf i).toNat)
  case atStart => exact ⟨0, Nat.zero_le _, rfl, ⟨Below.refl _ _, ⟨rfl, .inl ⟨rfl, rfl⟩⟩, fun _ => rfl⟩⟩
  case round =>
    obtain ⟨j, hj, rfl, hP⟩ := hrel
    by_cases hlt : j < l.length
    · have hB0 : Below w0.heap.size w0 wr := below_up hBw hP.below
      obtain ⟨b, o, rfl, c0⟩ := hrow wr hB0 j hlt
      obtain ⟨e, he⟩ : ∃ e, e = l[j] := ⟨_, rfl⟩
      have hem : e < D.m := by rw [he]; exact hl _ (List.getElem_mem hlt)
      rw [← he] at c0
      have hfil : (l.take (j + 1)).filter pr = (l.take j).filter pr ++ (if pr e = true then [e] else []) := by
        rw [List.take_succ_eq_append_getElem hlt, List.filter_append, ← he]
        cases hh : pr e <;> simp [hh]
      obtain ⟨L, hLd⟩ : ∃ L, L = (l.take j).filter pr := ⟨_, rfl⟩
      have hLlen : L.length ≤ 2048 := by
        rw [hLd]
        have h1 := List.length_filter_le pr (l.take j)
        rw [List.length_take] at h1
        omega
      rw [← hLd] at hP hfil
      have hpe : pr e = (R (D.src e) && okE D seed rank e) := by rw [hpr]
      have hsn := hD.sl e hem
      have g4 := cell_old hB0 hG.c4
      have x1 := cell_old hB0 (hG.sr e hem)
      have x2 := cell_old hB0 (hR _ hsn)
      have q1 := cell_old hP.below hgb
      have q2 := cell_old hP.below hfb
      have HAC := hid (accepted_any wr M D hD (hG.keep hB0) fp SD RK seed rank (hF.keep hB0) e hem)
      have hbs := hP.below.size
      obtain ⟨s, es⟩ : ∃ s, s = D.src e := ⟨_, rfl⟩
      obtain ⟨gp, hgp⟩ : ∃ gp, gp = M.gp := ⟨_, rfl⟩
      obtain ⟨SB, hSB⟩ : ∃ gp, gp = M.SB := ⟨_, rfl⟩
      obtain ⟨m, hm⟩ : ∃ gp, gp = D.m := ⟨_, rfl⟩
      obtain ⟨ok, hok⟩ : ∃ gp, gp = okE D seed rank e := ⟨_, rfl⟩
      obtain ⟨Rs, hRs⟩ : ∃ gp, gp = R (D.src e) := ⟨_, rfl⟩
      rw [← hok, ← hRs] at hpe
      rw [← hgp, ← hSB, ← hm] at g4
      rw [← hSB, ← es] at x1
      rw [← hRs, ← es] at x2
      rw [← hgp] at q1 HAC
      rw [← hok] at HAC
      rw [← hm] at hem
      rw [← es] at hsn
      have HFIL := hid hfil
      have HPE := hid hpe
      have HP := hid hP
      have HPR := hid hpr
      clear hfil hpe hpr hgp hSB hm hok hRs es hLd he hB0 hG hF hR hl hD hrow
      have i0 : (0 : Int) ≤ (j : Int) := by omega
      have i1 : (j : Int) < (l.length : Int) := by omega
      have e0 : (0 : Int) ≤ (e : Int) := by omega
      have e1 : (e : Int) < (m : Int) := by omega
      have y0 : (0 : Int) ≤ (s : Int) := by omega
      have y1 : (s : Int) < (D.n : Int) := by omega
      cases Rs with
      | false =>
        clear HAC hP
        go_wp2
        go_roundw
        case rel =>
          refine ⟨j + 1, by omega, by go_num, ?_⟩
          rw [HFIL.out, HPE.out, if_neg (by simp), List.append_nil]
          exact HP.out
        case measure => simp [intOf]; omega
      | true =>
        cases ok with
        | false =>
          clear hP
          go_wp2_with fail
          refine (HAC.out).mono ?_
          rintro r w' ⟨rfl, d, rfl⟩
          have HP2 : Hid (Cst w0 w (wr.drewN d) gb fb w.heap.size L u9) := hid ⟨below_drewN HP.out.below d, own_keep (below_drewN (Below.refl _ _) d) HP.out.own, HP.out.nil⟩
          clear HAC
          go_wp2
          go_roundw
          case rel =>
            refine ⟨j + 1, by omega, by go_num, ?_⟩
            rw [HFIL.out, HPE.out, if_neg (by simp), List.append_nil]
            exact HP2.out
          case measure => simp [intOf]; omega
        | true =>
          have hown := hP.own
          clear hP
          go_wp2_with fail
          refine (HAC.out).mono ?_
          rintro r w' ⟨rfl, d, rfl⟩
          clear HAC
          have hown2 := own_keep (w' := wr.drewN d) (below_drewN (Below.refl _ _) d) hown
          have hbs2 : w.heap.size ≤ (wr.drewN d).heap.size := hbs
          have HBG : Hid (∀ w1 : World, (wr.drewN d).grownBy w1 u9.ownBlock → Below w.heap.size w w1) := hid (fun w1 h => below_grown' (below_drewN HP.out.below d) hown2 (Nat.le_refl _) h)
          clear hown
          go_wp2_with ((at_builtin; refine wpList_append_at (wr := wr.drewN d) rfl (.tmp 40) (.tmp 42) 27 rfl 3 (.int .i64 0) 1 8 Ybaf.underlying27 info3 rfl (by omega) (by omega) u9 L.length (iv L) rfl w.heap.size hown2 hbs2 [.int .i64 (e : Int)] rfl (by simp [Value.oneCell']) wr.heap.size rfl rfl (by omega) ?_; intro g cap w1 ho1 hgr hat))
          have HP3 : Hid (Cst w0 w w1 gb fb w.heap.size (L ++ [e]) (.slice (some ⟨g, 0, none⟩) (L.length + 1) cap)) := hid ⟨HBG.out _ hgr, by rw [iv_append, List.length_append]; exact ho1, fun h => by simp at h⟩
          clear HBG ho1 hgr hat hown2 hbs2
          go_roundw
          case rel =>
            refine ⟨j + 1, by omega, by go_num, ?_⟩
            rw [HFIL.out, HPE.out, if_pos (by simp)]
            exact HP3.out
          case measure => simp [intOf]; omega
    · have e : j = l.length := by omega
      subst e
      rw [List.take_length] at hP
      clear hpr
      go_wp2
      first | exact hP | exact hQ _ _ _ _ _ _ _ _ _ _ _ _ _ _ _ _ _ _ _ _ _ _ _ _ _ _ wr _ hP

end Go.Proofs.YbulkectmFmt.A
