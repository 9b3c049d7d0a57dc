import Derived.Test.YbulkectmFmtAMm
import Derived.Test.YbulkectmFmtAVisP
namespace Go.Proofs.YbulkectmFmt.A
set_option linter.unusedVariables false
set_option linter.unusedSimpArgs false
open Go.RowKit Go.Deep

theorem grown_of_below {w w' : World} (h : Below w.heap.size w w') (row : Option Nat) : w.grownBy w' row := ⟨h.os, h.tape, h.output, h.size, fun k hk _ => h.block k hk⟩

/-- The candidates gathered so far. -/
structure Ca (w wr : World) (L : List Nat) (v : Value) : Prop where
  below : Below w.heap.size w wr
  own : wr.ownsRow w.heap.size 3 1 v L.length (iv L)
theorem Ca.drewN {w wr : World} {L : List Nat} {v : Value} (h : Ca w wr L v) (d : Nat) : Ca w (wr.drewN d) L v := ⟨below_drewN h.below d, own_keep (below_drewN (Below.refl _ _) d) h.own⟩

set_option maxRecDepth 1000000 in
set_option maxHeartbeats 8000000 in
/-- 'for j := range m.src { .. }' of visit. -/
theorem visLoop1 (w : World) (P : MP) (D : GD) (hD : D.Ok) (seed R : Nat → Bool) (rank : Nat → Int) (hM : Mm w P D seed R rank) (v : Nat)
    (Q : Exit → Act → World → Prop) (s2 s3 s4 s6 s7 s8 s9 s10 s11 s12 s13 s14 s15 s16 s17 s18 s19 s20 s21 s22 s23 s24 s25 s26 s27 s28 s29 s30 s31 s34 s35 s36 s37 s38 s39 s40 s41 s42 s43 s44 s45 s46 s47 s48 s49 s50 s51 s52 s53 s54 s55 s56 s57 s58 s59 s60 s61 s62 s63 s64 s65 s66 s67 s68 s69 s70 s71 s72 s73 s74 s75 s76 s77 s78 s79 s80 s81 s82 s83 s84 s85 s86 s87 s88 s89 s90 s91 s92 s93 s94 s95 s96 s97 s98 s99 s100 s101 s102 s103 s104 s105 s106 s107 s108 s109 s110 s111 s112 s113 s114 s115 s116 s117 s118 s119 s120 s121 s122 s123 s124 s125 s126 s127 s128 s129 s130 s131 s132 s133 s134 s135 s136 : Value)
    (hQ : ∀ (v6 v33 v34 v35 v36 v37 v38 v39 v40 v41 v42 v43 v44 v45 v46 v47 v48 v49 v50 v51 v52 v53 v54 v55 v56 v57 v58 v59 v60 v61 v62 v63 v64 v65 v66 v67 v68 v69 : Value) (w1 : World) (a : Option Addr) (c : Nat), Below w.heap.size w w1 → (∀ j (h : j < (candE D seed rank R v).length), ∃ b, a = some ⟨b, 0, none⟩ ∧ w.heap.size ≤ b ∧ w1.cell? ⟨b, j, none⟩ = some (.int .i64 (((candE D seed rank R v)[j] : Nat) : Int))) → Q .normal ⟨#[.pointer (some ⟨P.mp, 0, none⟩), .int .i64 (v : Int), s2, s3, s4, .slice a (candE D seed rank R v).length c, v6, s7, s8, s9, s10, s11, s12, s13, s14, s15, s16, s17, s18, s19, s20, s21, s22, s23, s24, s25, s26, s27, s28, s29, s30, s31, .int .i64 (D.m : Int), v33, v34, v35, v36, v37, v38, v39, v40, v41, v42, v43, v44, v45, v46, v47, v48, v49, v50, v51, v52, v53, v54, v55, v56, v57, v58, v59, v60, v61, v62, v63, v64, v65, v66, v67, v68, v69, s70, s71, s72, s73, s74, s75, s76, s77, s78, s79, s80, s81, s82, s83, s84, s85, s86, s87, s88, s89, s90, s91, s92, s93, s94, s95, s96, s97, s98, s99, s100, s101, s102, s103, s104, s105, s106, s107, s108, s109, s110, s111, s112, s113, s114, s115, s116, s117, s118, s119, s120, s121, s122, s123, s124, s125, s126, s127, s128, s129, s130, s131, s132, s133, s134, s135, s136], []⟩ w1) :
    Code.wp Ybaf.prog ((Ybaf.f9.body.bind (findLoop 6)).getD .skip) (Exit.inBlock 0 Q) ⟨#[.pointer (some ⟨P.mp, 0, none⟩), .int .i64 (v : Int), s2, s3, s4, .slice none 0 0, s6, s7, s8, s9, s10, s11, s12, s13, s14, s15, s16, s17, s18, s19, s20, s21, s22, s23, s24, s25, s26, s27, s28, s29, s30, s31, .int .i64 (D.m : Int), .int .i64 0, s34, s35, s36, s37, s38, s39, s40, s41, s42, s43, s44, s45, s46, s47, s48, s49, s50, s51, s52, s53, s54, s55, s56, s57, s58, s59, s60, s61, s62, s63, s64, s65, s66, s67, s68, s69, s70, s71, s72, s73, s74, s75, s76, s77, s78, s79, s80, s81, s82, s83, s84, s85, s86, s87, s88, s89, s90, s91, s92, s93, s94, s95, s96, s97, s98, s99, s100, s101, s102, s103, s104, s105, s106, s107, s108, s109, s110, s111, s112, s113, s114, s115, s116, s117, s118, s119, s120, s121, s122, s123, s124, s125, s126, s127, s128, s129, s130, s131, s132, s133, s134, s135, s136], []⟩ w := by
  conv => arg 2; whnf
  conv => arg 4; dsimp only
  go_loopw [5, 33] (fun cv x wr => ∃ k : Nat, k ≤ D.m ∧ x = .int .i64 k ∧ Ca w wr (candK D seed rank R v k) cv) (fun _ x _ => D.m - (intOf x).toNat)
  case atStart => exact ⟨0, Nat.zero_le _, rfl, ⟨Below.refl _ _, ⟨rfl, .inl ⟨rfl, rfl⟩⟩⟩⟩
  case round =>
    obtain ⟨k, hk, rfl, hP⟩ := hrel
    have hm3 := hD.hm
    by_cases hlt : k < D.m
    · have hG := grown_of_below hP.below (some P.EN)
      have hM1 := hM.keep hG
      obtain ⟨sb, hsb, _, hsc⟩ := hM1.sr k hlt
      obtain ⟨db, hdb, _, hdc⟩ := hM1.ds k hlt
      have g0 := hM1.c0
      have g1 := hM1.c1
      have g5 := hM1.c5
      rw [hsb] at g0
      rw [hdb] at g1
      have x1 := hsc k hlt
      have x2 := hdc k hlt
      have hsn := hD.sl k hlt
      have x3 := hM1.re _ hsn
      have HAC : Hid (∀ d, Calls Ybaf.prog 8 #[.pointer (some ⟨P.mp, 0, none⟩), .int .i64 (k : Int)] (wr.drewN d) fun r w' => r = .returned (.bool (okE D seed rank k)) ∧ ∃ n, w' = (wr.drewN d).drewN n) := hid (fun d => ok_any (wr.drewN d) P D hD seed R rank (hM1.keep (grown_of_below (below_drewN (Below.refl _ _) d) _)) k hlt)
      have HSU := hid (candK_succ (D := D) (seed := seed) (rank := rank) (R := R) (v := v) k)
      have hLlen : (candK D seed rank R v k).length ≤ 2048 := Nat.le_trans (candK_len k) (by omega)
      have HP := hid hP
      have hbs := hP.below.size
      obtain ⟨L, hL⟩ : ∃ L, L = candK D seed rank R v k := ⟨_, rfl⟩
      obtain ⟨s, es⟩ : ∃ s, s = D.src k := ⟨_, rfl⟩
      obtain ⟨t, et⟩ : ∃ s, s = D.dst k := ⟨_, rfl⟩
      obtain ⟨ok, hok⟩ : ∃ s, s = okE D seed rank k := ⟨_, rfl⟩
      obtain ⟨Rs, hRs⟩ : ∃ r, r = R s := ⟨_, rfl⟩
      obtain ⟨RE, hRE⟩ : ∃ s, s = P.RE := ⟨_, rfl⟩
      rw [← hL] at HP HSU hLlen
      rw [← es] at x1 x3 hsn HSU
      rw [← et] at x2 HSU
      rw [← hok] at HAC HSU
      rw [← hRs] at x3 HSU
      rw [← hRE] at g5 x3
      obtain ⟨mp, hmp⟩ : ∃ s, s = P.mp := ⟨_, rfl⟩
      rw [← hmp] at g0 g1 g5 HAC ⊢
      have hown := HP.out.own
      clear hP hM hG hM1 hsb hdb hsc hdc hL es et hok hRs hRE hD hmp
      have i0 : (0 : Int) ≤ (k : Int) := by omega
      have i1 : (k : Int) < (D.m : Int) := by omega
      have s0 : (0 : Int) ≤ (s : Int) := by omega
      have s1 : (s : Int) < (D.n : Int) := by omega
      by_cases htv : t = v
      · have tv1 : ((t : Int) == (v : Int)) = true := by rw [htv]; simp
        have tv2 : decide ((t : Int) = (v : Int)) = true := decide_eq_true (by omega)
        have HTV := hid (show (t == v) = true by rw [htv]; simp)
        clear htv
        cases Rs with
        | false =>
          have HSU2 : Hid (candK D seed rank R v (k + 1) = L) := hid (by rw [HSU.out, if_neg (by simp), List.append_nil])
          clear HSU HAC hown
          go_wp2_with fail
          go_quiet (fail)
          obtain ⟨W2, hW2⟩ : ∃ W2, W2 = wr.drewN nq := ⟨_, rfl⟩
          have HP2 : Hid (Ca w W2 L u5) := hid (by rw [hW2]; exact HP.out.drewN nq)
          rw [← hW2]
          clear hW2 HP
          go_wp2
          go_roundw
          case rel => exact ⟨k + 1, by omega, by go_num, by rw [HSU2.out]; exact HP2.out⟩
          case measure => simp [intOf]; omega
        | true =>
          cases ok with
          | false =>
            have HSU2 : Hid (candK D seed rank R v (k + 1) = L) := hid (by rw [HSU.out, if_neg (by simp), List.append_nil])
            clear HSU hown
            go_wp2_with fail
            go_quiet ((go_at_call 8; exact Calls.quiet_of (HAC.out _)))
            obtain ⟨W2, hW2⟩ : ∃ W2, W2 = wr.drewN nq := ⟨_, rfl⟩
            have HP2 : Hid (Ca w W2 L u5) := hid (by rw [hW2]; exact HP.out.drewN nq)
            rw [← hW2]
            clear hW2 HP HAC
            go_wp2
            go_roundw
            case rel => exact ⟨k + 1, by omega, by go_num, by rw [HSU2.out]; exact HP2.out⟩
            case measure => simp [intOf]; omega
          | true =>
            have HSU2 : Hid (candK D seed rank R v (k + 1) = L ++ [k]) := hid (by rw [HSU.out, if_pos ⟨HTV.out, rfl, rfl⟩])
            clear HSU hown
            go_wp2_with fail
            go_quiet ((go_at_call 8; exact Calls.quiet_of (HAC.out _)))
            obtain ⟨W2, hW2⟩ : ∃ W2, W2 = wr.drewN nq := ⟨_, rfl⟩
            have hP2 : Ca w W2 L u5 := by rw [hW2]; exact HP.out.drewN nq
            have hown := hP2.own
            have hbs2 := hP2.below.size
            have HBG : Hid (∀ w1 : World, W2.grownBy w1 u5.ownBlock → Below w.heap.size w w1) := hid (fun w1 h => below_grown' hP2.below hown (Nat.le_refl _) h)
            rw [← hW2]
            clear hW2 HP HAC hP2
            go_wp2_with ((at_builtin; refine wpList_append_at (wr := W2) rfl (.tmp 65) (.tmp 67) 27 rfl 3 (.int .i64 0) 1 8 Ybaf.underlying27 info3 rfl (by omega) (by omega) u5 L.length (iv L) rfl w.heap.size hown hbs2 [.int .i64 (k : Int)] rfl (by simp [Value.oneCell']) W2.heap.size rfl rfl (by omega) ?_; intro g cap w1 ho1 hgr hat))
            have HP3 : Hid (Ca w w1 (L ++ [k]) (.slice (some ⟨g, 0, none⟩) (L.length + 1) cap)) := hid ⟨HBG.out _ hgr, by rw [iv_append, List.length_append]; exact ho1⟩
            clear HBG ho1 hgr hat hown hbs2
            go_roundw
            case rel => exact ⟨k + 1, by omega, by go_num, by rw [HSU2.out]; exact HP3.out⟩
            case measure => simp [intOf]; omega
      · have tv1 : ((t : Int) == (v : Int)) = false := beq_eq_false_iff_ne.2 (by omega)
        have tv2 : decide ((t : Int) = (v : Int)) = false := decide_eq_false (by omega)
        have tv3 : (t == v) = false := beq_eq_false_iff_ne.2 htv
        have tv4 : decide (t = v) = false := decide_eq_false htv
        have HSU2 : Hid (candK D seed rank R v (k + 1) = L) := hid (by rw [HSU.out, if_neg (by simp [tv3]), List.append_nil])
        clear HSU HAC hown htv
        go_wp2_with fail
        go_quiet (fail)
        obtain ⟨W2, hW2⟩ : ∃ W2, W2 = wr.drewN nq := ⟨_, rfl⟩
        have HP2 : Hid (Ca w W2 L u5) := hid (by rw [hW2]; exact HP.out.drewN nq)
        rw [← hW2]
        clear hW2 HP
        go_wp2
        go_roundw
        case rel => exact ⟨k + 1, by omega, by go_num, by rw [HSU2.out]; exact HP2.out⟩
        case measure => simp [intOf]; omega
    · have e : k = D.m := by omega
      subst e
      rw [candK_all] at hP
      obtain ⟨L, hL⟩ : ∃ L, L = candE D seed rank R v := ⟨_, rfl⟩
      rw [← hL] at hP hQ
      obtain ⟨a, c, ha, hc⟩ : ∃ a c, u5 = .slice a L.length c ∧ ∀ j (h : j < L.length), ∃ b, a = some ⟨b, 0, none⟩ ∧ w.heap.size ≤ b ∧ wr.cell? ⟨b, j, none⟩ = some (.int .i64 ((L[j] : Nat) : Int)) := by
        have hw := hP.own
        rcases hw.2 with ⟨e1, e2⟩ | ⟨g, cap, cur, e1, hb, _⟩
        · exact ⟨none, 0, by rw [e1, e2], fun j h => absurd h (by omega)⟩
        · refine ⟨_, cap, e1, fun j h => ⟨g, rfl, hb, ?_⟩⟩
          rw [e1] at hw
          rw [hw.cellAt j (by omega)]
          exact iv_get h
      subst ha
      have HC := hid hc
      have HB := hid hP.below
      clear hL hP hc hM
      go_wp2
      exact hQ _ _ _ _ _ _ _ _ _ _ _ _ _ _ _ _ _ _ _ _ _ _ _ _ _ _ _ _ _ _ _ _ _ _ _ _ _ _ wr a c HB.out HC.out

end Go.Proofs.YbulkectmFmt.A
