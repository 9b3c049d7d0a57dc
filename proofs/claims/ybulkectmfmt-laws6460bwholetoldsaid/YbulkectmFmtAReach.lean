import Derived.Test.YbulkectmFmtAReach3
namespace Go.Proofs.YbulkectmFmt.A
set_option linter.unusedVariables false
set_option linter.unusedSimpArgs false
open Go.RowKit Go.Deep

set_option maxRecDepth 1000000 in
set_option maxHeartbeats 8000000 in
/-- 'for i := 0; i < len(queue); i++ { .. }'. -/
theorem reachLoop2 (w wr : World) (M : GM) (D : GD) (hD : D.Ok) (hG : Gr w M D) (fp SD RK : Nat) (seed : Nat → Bool) (rank : Nat → Int) (hF : Fir w fp SD RK D.n seed rank) (RB : Nat) (x0 : Nat) (hx0 : x0 < D.n) (v0 : Value) (h0 : Rst w wr RB D.n (rr D (okE D seed rank) x0 0) v0)
    (Q : Exit → Act → World → Prop) (s2 s3 s4 s5 s6 s9 s10 s12 s13 s14 s15 s16 s17 s18 s19 s20 s21 s22 s23 s24 s25 s26 s27 s28 s29 s30 s31 s32 s33 s34 s35 s36 s37 s38 s39 s40 s41 s42 s43 s44 s45 s46 s47 s48 s49 s50 s51 s52 s53 s54 s55 s56 s57 s58 s59 s60 s61 s62 s63 s64 s65 s66 s67 s68 s69 s70 s71 s72 s73 s74 s75 s76 s77 s78 s79 s80 s81 s82 s83 s84 s85 s86 s87 s88 s89 s90 s91 s92 s93 : Value)
    (hQ : ∀ (v11 v13 v14 v46 v47 v48 v49 v50 v51 v52 v53 v54 v55 v56 v57 v58 v59 v60 v61 v62 v63 v64 v65 v66 v67 v68 v69 v70 v71 v72 v73 v74 v75 v76 v77 v78 v79 v80 v81 v82 v83 v84 v85 v86 v87 v88 v89 v90 v91 v92 : Value) (w1 : World) (v : Value) (R : Nat → Bool), Below w.heap.size w w1 → (∀ i, i < D.n → w1.cell? ⟨RB, i, none⟩ = some (.bool (R i))) → (∀ i, R i = true ↔ Reach D (okE D seed rank) x0 i) → Q .normal ⟨#[.pointer (some ⟨M.gp, 0, none⟩), .pointer (some ⟨fp, 0, none⟩), s2, s3, s4, s5, s6, .slice (some ⟨RB, 0, none⟩) D.n D.n, v, s9, s10, v11, s12, v13, v14, s15, s16, s17, s18, s19, s20, s21, s22, s23, s24, s25, s26, s27, s28, s29, s30, s31, s32, s33, s34, s35, s36, s37, s38, s39, s40, s41, s42, s43, s44, s45, v46, v47, v48, v49, v50, v51, v52, v53, v54, v55, v56, v57, v58, v59, v60, v61, v62, v63, v64, v65, v66, v67, v68, v69, v70, v71, v72, v73, v74, v75, v76, v77, v78, v79, v80, v81, v82, v83, v84, v85, v86, v87, v88, v89, v90, v91, v92, s93], []⟩ w1) :
    Code.wp Ybaf.prog ((Ybaf.f13.body.bind (findLoop 11)).getD .skip) (Exit.inBlock 2 Q) ⟨#[.pointer (some ⟨M.gp, 0, none⟩), .pointer (some ⟨fp, 0, none⟩), s2, s3, s4, s5, s6, .slice (some ⟨RB, 0, none⟩) D.n D.n, v0, s9, s10, .int .i64 0, s12, s13, s14, s15, s16, s17, s18, s19, s20, s21, s22, s23, s24, s25, s26, s27, s28, s29, s30, s31, s32, s33, s34, s35, s36, s37, s38, s39, s40, s41, s42, s43, s44, s45, s46, s47, s48, s49, s50, s51, s52, s53, s54, s55, s56, s57, s58, s59, s60, s61, s62, s63, s64, s65, s66, s67, s68, s69, s70, s71, s72, s73, s74, s75, s76, s77, s78, s79, s80, s81, s82, s83, s84, s85, s86, s87, s88, s89, s90, s91, s92, s93], []⟩ wr := by
  obtain ⟨ok, hok⟩ : ∃ ok, ok = okE D seed rank := ⟨_, rfl⟩
  rw [← hok] at h0 hQ
  conv => arg 2; whnf
  conv => arg 4; dsimp only
  go_loopw [8, 11] (fun v x wr => ∃ (i : Nat), i ≤ D.n ∧ x = .int .i64 i ∧ i ≤ (rr D ok x0 i).q.length ∧ Rst w wr RB D.n (rr D ok x0 i) v) (fun _ x _ => D.n - (intOf x).toNat)
  case atStart => exact ⟨0, Nat.zero_le _, rfl, Nat.zero_le _, h0⟩
  case round =>
    clear h0
    obtain ⟨i, hin, rfl, hio, hP⟩ := hrel
    have hI := (RInv.rr hD ok x0 hx0 i).1
    have hlen := hI.len
    have hn3 := hD.hn
    obtain ⟨a', c', rfl⟩ := hP.shape
    by_cases hlt : i < (rr D ok x0 i).q.length
    · have hBw := hP.below
      obtain ⟨u, hu⟩ : ∃ u, u = (rr D ok x0 i).q[i] := ⟨_, rfl⟩
      have hun : u < D.n := by rw [hu]; exact hI.lt _ (List.getElem_mem hlt)
      have huR : (rr D ok x0 i).R u = true := by rw [hu]; exact (hI.mem _).2 (List.getElem_mem hlt)
      have hst : rr D ok x0 (i + 1) = (outL D u).foldl (stepR D ok) (rr D ok x0 i) := by
        have : (rr D ok x0 i).q[i]? = some u := by rw [hu]; exact List.getElem?_eq_getElem hlt
        show (match (rr D ok x0 i).q[i]? with | some u => (outL D u).foldl (stepR D ok) (rr D ok x0 i) | none => rr D ok x0 i) = _
        rw [this]
      obtain ⟨b, o, rfl, c0⟩ := own_int hP.own i hlt
      rw [← hu] at c0
      have g7 := cell_old hBw hG.c7
      obtain ⟨go1, go2⟩ := hG.out u hun
      obtain ⟨oa, oc, hov, hrows⟩ := go2
      have g8 := cell_old hBw go1
      rw [hov] at g8
      have hr4 := row_ints (a := oa) (c := oc) (l := outL D u) (w := w) ⟨oa, oc, rfl, hrows⟩
      obtain ⟨L, hL⟩ : ∃ L, L = (rr D ok x0 i).q.length := ⟨_, rfl⟩
      rw [← hL] at hlt hio hlen ⊢
      have HST := hid hst
      have HP := hid hP
      have HI := hid hI
      have HL := hid hL
      have hG' := hid hG
      have hR4 := hid hr4
      have HD := hid hD
      have HUR := hid huR
      have HF := hid hF
      have HOK := hid hok
      clear hst hP hI hBw hL hG hrows hr4 hu go1 hD huR hF hok
      have i0 : (0 : Int) ≤ (i : Int) := by omega
      have i1 : (i : Int) < (L : Int) := by omega
      have u0 : (0 : Int) ≤ (u : Int) := by omega
      have u1 : (u : Int) < (D.n : Int) := by omega
      go_wp2_with fail
      go_quiet (fail)
      have HP2 := hid (HP.out.keep (wx := wr.drewN nq) (below_drewN (Below.refl _ _) nq))
      obtain ⟨W2, hW2⟩ : ∃ W2, W2 = wr.drewN nq := ⟨_, rfl⟩
      rw [← hW2] at HP2 ⊢
      clear HP hW2 c0 g7 g8
      go_wp2
      refine reachLoop3 w W2 M D HD.out hG'.out fp SD RK seed rank HF.out RB u x0 (rr D ok x0 i) (by rw [← HOK.out]; exact HI.out) HUR.out _ (by have := HP2.out; rw [← HL.out] at this; exact this) oa oc (outL D u) (fun e he => mem_outL.1 he) (Nat.le_trans (outL_len D u) HD.out.hm) hR4.out _ _ _ _ _ _ _ _ _ _ _ _ _ _ _ _ _ _ _ _ _ _ _ _ _ _ _ _ _ _ _ _ _ _ _ _ _ _ _ _ _ _ _ _ _ _ _ _ _ _ _ _ _ _ _ _ _ _ _ _ _ _ _ _ _ _ _ _ _ _ _ _ _ _ _ _ _ _ _ _ _ _ _ _ _ _ _ _ ?_
      intro y13 y14 y63 y64 y65 y66 y67 y68 y69 y70 y71 y72 y73 y74 y75 y76 y77 y78 y79 y80 y81 y82 y83 y84 y85 y86 y87 y88 y89 y90 y91 y92 w3 v3 hP3
      rw [← HOK.out, ← HST.out] at hP3
      have HP3 := hid hP3
      clear hP3 HP2
      go_wp2
      go_roundw
      case rel =>
        refine ⟨i + 1, by omega, by go_num, ?_, HP3.out⟩
        have h1 := HST.out
        have : (rr D ok x0 i).q.length ≤ (rr D ok x0 (i + 1)).q.length := by
          rw [h1]
          exact foldR_len D ok (outL D u) _
        have h2 := HL.out
        omega
      case measure => simp [intOf]; omega
    · have e : (rr D ok x0 i).q.length ≤ i := by omega
      have HR := hid (rr_reach hD ok x0 hx0 i e)
      have eL : (rr D ok x0 i).q.length = i := by omega
      have HP := hid hP
      rw [eL]
      have HOK := hid hok
      clear hP hlt hio hlen e hI hok
      go_wp2
      first | exact hQ _ _ _ _ _ _ _ _ _ _ _ _ _ _ _ _ _ _ _ _ _ _ _ _ _ _ _ _ _ _ _ _ _ _ _ _ _ _ _ _ _ _ _ _ _ _ _ _ _ _ wr _ _ HP.out.below (fun i hi => HP.out.rb.cell hi) HR.out | (refine ⟨HP.out.below, fun i hi => HP.out.rb.cell hi, HR.out⟩)

theorem rst_start {w wr : World} {RB n : Nat} {D : GD} {ok : Nat → Bool} {x0 : Nat} {v : Value} (hb : Below w.heap.size w wr) (hrb : wr.rowIs RB 4 n (fun i => .bool (upd (fun _ => false) x0 true i))) (hown : wr.ownsRow (RB + 1) 3 1 v 1 [.int .i64 (x0 : Int)]) (hlo : w.heap.size ≤ RB) : Rst w wr RB n (rr D ok x0 0) v := ⟨hb, hrb, hown, hlo⟩

theorem info3b : ∃ i, Ybaf.prog.info? 3 = some i ∧ i.zero = some (.int .i64 0) ∧ i.size = 1 ∧ i.bytes = 8 := info_parts info3

theorem make0 (n : Nat) (hn : n ≤ 300) (w : World) : (Instr.makeSlice 27 (.int .i64 0) (.int .i64 (n : Int))).run Ybaf.prog w = .ok (.slice (some ⟨w.heap.size, 0, none⟩) 0 n) (w.alloc (.cells (madeCells #[.int .i64 0] n) 3)) := by
  obtain ⟨i, hi, hz, hs, hb⟩ := info3b
  have h := run_make (P := Ybaf.prog) w 27 3 i (.int .i64 0) Ybaf.underlying27 hi hz .i64 .i64 0 (n : Int) (by omega) (by omega) (by rw [hb]; omega) (by omega)
  simpa [hs, Value.cells] using h

set_option maxRecDepth 1000000 in
set_option maxHeartbeats 8000000 in
/-- reached, from one node. -/
theorem reached_any (w : World) (M : GM) (D : GD) (hD : D.Ok) (hG : Gr w M D) (fp SD RK : Nat) (seed : Nat → Bool) (rank : Nat → Int) (hF : Fir w fp SD RK D.n seed rank) (x0 : Nat) (hx0 : x0 < D.n) (b : Nat) (hb : w.cell? ⟨b, 0, none⟩ = some (.int .i64 (x0 : Int))) :
    Calls Ybaf.prog 13 #[.pointer (some ⟨M.gp, 0, none⟩), .pointer (some ⟨fp, 0, none⟩), .slice (some ⟨b, 0, none⟩) 1 1] w fun e w' => ∃ RB, e = .returned (.slice (some ⟨RB, 0, none⟩) D.n D.n) ∧ Below w.heap.size w w' ∧ ∃ R : Nat → Bool, (∀ i, i < D.n → w'.cell? ⟨RB, i, none⟩ = some (.bool (R i))) ∧ ∀ i, R i = true ↔ Reach D (okE D seed rank) x0 i := by
  have hn3 := hD.hn
  have g1 := hG.c1
  have l1 := lt_of_cell g1
  have l2 := lt_of_cell hb
  have m4 := run_make_row' (P := Ybaf.prog) 55 4 (.bool false) 1 Ybaf.underlying55 info4 rfl .i64 .i64 D.n (by omega) (by omega)
  have m3 := make0 D.n hn3
  obtain ⟨Z4, hZ4⟩ : ∃ Z, Z = madeCells #[.bool false] D.n := ⟨_, rfl⟩
  obtain ⟨Z3, hZ3⟩ : ∃ Z, Z = madeCells #[.int .i64 0] D.n := ⟨_, rfl⟩
  rw [← hZ4] at m4
  rw [← hZ3] at m3
  obtain ⟨RB, hRB⟩ : ∃ RB, RB = w.heap.size := ⟨_, rfl⟩
  -- the two made rows
  have hB2 : Below w.heap.size w ((w.alloc (.cells Z4 4)).alloc (.cells Z3 3)) := ((Below.refl _ _).alloc (Nat.le_refl _) _).alloc (by rw [nblk_alloc]; omega) _
  have hr4 : ((w.alloc (.cells Z4 4)).alloc (.cells Z3 3)).rowIs w.heap.size 4 D.n (fun _ => .bool false) := by
    refine made_row ?_
    rw [blk_alloc_lt _ _ _ (by rw [nblk_alloc]; omega), ← hZ4]
    exact blk_alloc_new _ _
  have hz3s : Z3.size = D.n := by rw [hZ3]; have := World.rowIs_made (w := w) (.int .i64 0) D.n 3; obtain ⟨c, h1, h2, _⟩ := this; rw [blk_alloc_new] at h1; cases h1; exact h2
  have ho3 : ((w.alloc (.cells Z4 4)).alloc (.cells Z3 3)).ownsRow (w.heap.size + 1) 3 1 (.slice (some ⟨w.heap.size + 1, 0, none⟩) 0 D.n) 0 [] := by
    refine ⟨rfl, .inr ⟨w.heap.size + 1, D.n, Z3, rfl, Nat.le_refl _, ?_, Nat.zero_le _, by unfold maxLen; omega, by rw [hz3s, Nat.mul_one], by simp⟩⟩
    have := blk_alloc_new (w.alloc (.cells Z4 4)) (.cells Z3 3)
    rw [nblk_alloc] at this
    exact this
  obtain ⟨W2, hW2⟩ : ∃ W2, W2 = (w.alloc (.cells Z4 4)).alloc (.cells Z3 3) := ⟨_, rfl⟩
  rw [← hW2] at hB2 hr4 ho3
  have hs2 : W2.heap.size = w.heap.size + 2 := by rw [hW2]; simp
  have c2 := cell_old hB2 hb
  rw [← hRB] at hr4 ho3
  have c4 := hr4.cell hx0
  have f4 := hr4.frozen x0
  -- behind 'reached[s] = true'
  have hr5 := (hr4.set x0 (.bool true)).congr (g := fun i => .bool (upd (fun _ => false) x0 true i)) (fun i _ => by
    by_cases e : i = x0
    · subst e; simp [upd]
    · simp [upd, e])
  have hB3 : Below w.heap.size w (W2.setCell ⟨RB, x0, none⟩ (.bool true)) := hB2.setCell (by simp; omega) _
  have hown : (W2.setCell ⟨RB, x0, none⟩ (.bool true)).ownsRow (RB + 1) 3 1 (.slice (some ⟨RB + 1, 0, none⟩) 0 D.n) 0 [] := ownsRow_setCell_below ho3 (by simp) _
  have hbs : RB + 1 ≤ (W2.setCell ⟨RB, x0, none⟩ (.bool true)).heap.size := by rw [nblk_setCell]; omega
  have hHs : (W2.setCell ⟨RB, x0, none⟩ (.bool true)).heap.size = W2.heap.size := nblk_setCell _ _ _
  have HST : Hid (∀ (w1 : World) (g cap : Nat), w1.ownsRow (RB + 1) 3 1 (.slice (some ⟨g, 0, none⟩) 1 cap) 1 [.int .i64 (x0 : Int)] → (W2.setCell ⟨RB, x0, none⟩ (.bool true)).grownBy w1 (some (RB + 1)) → Rst w w1 RB D.n (rr D (okE D seed rank) x0 0) (.slice (some ⟨g, 0, none⟩) 1 cap)) := hid (fun w1 g cap h1 h2 => by
    refine rst_start (below_grown hB3 hB3.size h2 (fun k hk => by cases hk; omega)) (hr5.of_block (h2.block RB hr5.lt (fun e => by injection e; omega))) h1 (by omega))
  have HHS := hid hHs
  have HG := hid hG
  have HD := hid hD
  have HF := hid hF
  have HW2 := hid hW2
  have HRB := hid hRB
  have Hs2 := hid hs2
  have x00 : (0 : Int) ≤ (x0 : Int) := by omega
  have x01 : (x0 : Int) < (D.n : Int) := by omega
  clear hG hD hF hW2 hB2 hr4 ho3 hr5 hB3 hHs hz3s hZ4 hZ3 hRB hs2
  go_enter Ybaf.func13, Ybaf.ntmps13
  go_wp2
  rw [← HW2.out, ← HRB.out]
  clear HW2 m3 m4 g1
  refine wp_loop_rounds 2 ?_
  rw [rounds_succ]
  go_wp2_with ((at_builtin; refine wpList_append_at rfl (.tmp 41) (.tmp 43) 27 rfl 3 (.int .i64 0) 1 8 Ybaf.underlying27 info3 rfl (by omega) (by omega) _ 0 [] rfl (RB + 1) hown hbs [.int .i64 (x0 : Int)] rfl (by simp [Value.oneCell']) W2.heap.size HHS.out rfl (by omega) ?_; intro g cap w1 ho1 hgr hat))
  rw [rounds_succ]
  have HR0 := hid (HST.out w1 g cap ho1 hgr)
  clear HST ho1 hgr hat hown hbs c2 c4 f4
  go_wp2
  refine reachLoop2 w w1 M D HD.out HG.out fp SD RK seed rank HF.out RB x0 hx0 _ HR0.out _ _ _ _ _ _ _ _ _ _ _ _ _ _ _ _ _ _ _ _ _ _ _ _ _ _ _ _ _ _ _ _ _ _ _ _ _ _ _ _ _ _ _ _ _ _ _ _ _ _ _ _ _ _ _ _ _ _ _ _ _ _ _ _ _ _ _ _ _ _ _ _ _ _ _ _ _ _ _ _ _ _ _ _ _ _ _ _ _ _ ?_
  intro z11 z13 z14 z46 z47 z48 z49 z50 z51 z52 z53 z54 z55 z56 z57 z58 z59 z60 z61 z62 z63 z64 z65 z66 z67 z68 z69 z70 z71 z72 z73 z74 z75 z76 z77 z78 z79 z80 z81 z82 z83 z84 z85 z86 z87 z88 z89 z90 z91 z92 w4 v4 R hB4 hR4 hRR
  have HB4 := hid hB4
  have HR4 := hid hR4
  have HRR := hid hRR
  clear hB4 hR4 hRR HR0
  go_wp2
  go_ret
  exact ⟨RB, rfl, HB4.out, R, HR4.out, HRR.out⟩

end Go.Proofs.YbulkectmFmt.A
