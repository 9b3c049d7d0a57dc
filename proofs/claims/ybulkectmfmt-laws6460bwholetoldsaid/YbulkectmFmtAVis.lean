import Derived.Test.YbulkectmFmtAVis2
namespace Go.Proofs.YbulkectmFmt.A
set_option linter.unusedVariables false
set_option linter.unusedSimpArgs false
open Go.RowKit Go.Deep

set_option maxRecDepth 1000000 in
set_option maxHeartbeats 8000000 in
/-- (m *zzs6460bm) visit. -/
theorem visit_fuel (P : MP) (D : GD) (hD : D.Ok) (seed R : Nat → Bool) (rank : Nat → Int) (hinj : ∀ x y, 0 ≤ rank x → rank x = rank y → x = y) (G : DG) (hGd : G = ⟨D.n, seed, D.src, prefL D seed rank R⟩) : ∀ (N : Nat) (w : World) (E : Nat → Bool) (v : Nat), Mm w P D seed R rank → w.rowIs P.EN 4 D.n (fun i => .bool (E i)) → v < D.n → E v = false → cnt D.n E ≤ N →
    Calls Ybaf.prog 9 #[.pointer (some ⟨P.mp, 0, none⟩), .int .i64 (v : Int)] w (VPost w P.EN D.n (V G E v)) := by
  have hGn : G.n = D.n := by rw [hGd]
  have hGs : G.src = D.src := by rw [hGd]
  have hGse : G.seed = seed := by rw [hGd]
  have hGp : G.pref = prefL D seed rank R := by rw [hGd]
  have hGO : G.Ok := by rw [hGd]; exact ⟨fun v e he => hD.sl e (mem_prefL.1 he).1⟩
  clear hGd
  intro N
  induction N with
  | zero =>
    intro w E v hM hE hv hEv hc
    have := cnt_enter D.n E v hv hEv
    omega
  | succ N ih =>
    intro w E v hM hE hv hEv hc
    have hce := cnt_enter D.n E v hv hEv
    have hVE := V_eq hGO E v (by omega) hEv
    rw [hGse, hGp] at hVE
    have g4 := hM.c4
    have g6 := hM.c6
    have g0 := hM.c0
    have z1 := hE.cell hv
    have z2 := hE.frozen v
    have hEl := hE.lt
    have n4 : P.SD ≠ P.EN := hM.n3
    have nmp : P.mp ≠ P.EN := hM.n1
    have s1 := hM.sd v hv
    obtain ⟨W1, hW1⟩ : ∃ W1, W1 = w.setCell ⟨P.EN, v, none⟩ (.bool true) := ⟨_, rfl⟩
    have hg1 : w.grownBy W1 (some P.EN) := by rw [hW1]; exact grown_set ⟨rfl, rfl, rfl, Nat.le_refl _, fun _ _ _ => rfl⟩ (.inr rfl) _
    have hE1 : W1.rowIs P.EN 4 D.n (fun i => .bool (upd E v true i)) := by
      rw [hW1]
      refine (hE.set v _).congr fun i _ => ?_
      unfold upd
      split <;> rfl
    have hM1 := hM.keep hg1
    have hs1 : W1.heap.size = w.heap.size := by rw [hW1]; exact nblk_setCell _ _ _
    have v0 : (0 : Int) ≤ (v : Int) := by omega
    have v1 : (v : Int) < (D.n : Int) := by omega
    have HG1 := hid hg1
    have HE1 := hid hE1
    have HM1 := hid hM1
    have HM := hid hM
    have HE := hid hE
    have HD := hid hD
    have HW1 := hid hW1
    have HIH := hid ih
    have HS1 := hid hs1
    have HVE := hid hVE
    have hN : cnt D.n (upd E v true) ≤ N := by omega
    have q4 := hM1.c4
    have q0 := hM1.c0
    have q1 := hM1.sd v hv
    have hSd : seed v = true ∨ seed v = false := by cases seed v <;> simp
    obtain ⟨sv, hsv⟩ : ∃ s, s = seed v := ⟨_, rfl⟩
    rw [← hsv] at q1 s1 hSd HVE
    have hm3 := hD.hm
    clear hM hE ih hg1 hE1 hM1 hs1 hW1 hVE hEv hc hce hD hsv
    cases sv with
    | true =>
      go_enter Ybaf.func9, Ybaf.ntmps9
      go_wp2
      rw [← HW1.out]
      go_ret
      have hv := HVE.out
      rw [if_pos (by simp)] at hv
      rw [hv]
      refine ⟨grown_own HG1.out (grown_of_below ((Below.refl _ _).alloc (Nat.le_refl _) _) Option.none) (fun k hk => by cases hk), HE1.out.alloc _, _, rfl, .inr ⟨[v], rfl, by simp, ?_⟩⟩
      refine ⟨rfl, .inr ⟨W1.heap.size, 1, #[.int .i64 (v : Int)], by rw [HS1.out]; rfl, by rw [HS1.out]; exact Nat.le_refl _, blk_alloc_new _ _, Nat.le_refl _, by unfold maxLen; omega, rfl, rfl⟩⟩
    | false =>
      go_enter Ybaf.func9, Ybaf.ntmps9
      go_wp2_with fail
      rw [← HW1.out]
      refine visLoop1 W1 P D HD.out seed R rank HM1.out v _ _ _ _ _ _ _ _ _ _ _ _ _ _ _ _ _ _ _ _ _ _ _ _ _ _ _ _ _ _ _ _ _ _ _ _ _ _ _ _ _ _ _ _ _ _ _ _ _ _ _ _ _ _ _ _ _ _ _ _ _ _ _ _ _ _ _ _ _ _ _ _ _ _ _ _ _ _ _ _ _ _ _ _ _ _ _ _ _ _ _ _ _ _ _ _ _ _ _ _ _ _ _ _ _ _ _ _ _ _ _ _ _ _ _ _ _ _ _ _ _ _ _ _ _ _ _ _ _ _ _ _ _ ?_
      intro y6 y33 y34 y35 y36 y37 y38 y39 y40 y41 y42 y43 y44 y45 y46 y47 y48 y49 y50 y51 y52 y53 y54 y55 y56 y57 y58 y59 y60 y61 y62 y63 y64 y65 y66 y67 y68 y69 w2 a c hB2 hc2
      have HB2 := hid hB2
      have HC2 := hid hc2
      have hLl : (candE D seed rank R v).length ≤ 2048 := by
        have h1 := prefL_len (D := D) (seed := seed) (rank := rank) (R := R) (v := v)
        rw [prefL_perm.length_eq] at h1
        omega
      clear hB2 hc2
      have m4 := run_make_row' (P := Ybaf.prog) 55 4 (.bool false) 1 Ybaf.underlying55 info4 rfl .i64 .i64 (candE D seed rank R v).length (by omega) (by omega)
      obtain ⟨W3, hW3⟩ : ∃ W3, W3 = w2.alloc (.cells (madeCells #[.bool false] (candE D seed rank R v).length) 4) := ⟨_, rfl⟩
      have HV0 : Hid (Vl w W3 P.EN D.n (candE D seed rank R v) a w2.heap.size (fun _ => false) (upd E v true)) := hid (by
        have hs1 := HS1.out
        have hg2 : w.grownBy w2 (some P.EN) := grown_trans HG1.out (grown_of_below HB2.out _)
        have hg3 : w.grownBy W3 (some P.EN) := by rw [hW3]; exact grown_trans hg2 (grown_of_below ((Below.refl _ _).alloc (Nat.le_refl _) _) _)
        refine ⟨hg3, ?_, fun j hj => ?_, ?_, hg2.size, HE.out.lt⟩
        · rw [hW3]
          exact (HE1.out.of_block (HB2.out.block _ HE1.out.lt)).alloc _
        · obtain ⟨b, e, hb, hcc⟩ := HC2.out j hj
          have hbl := lt_of_cell hcc
          refine ⟨b, e, by omega, by omega, ?_⟩
          rw [hW3, World.cell?_alloc_lt _ _ _ hbl]
          exact hcc
        · rw [hW3]
          exact made_row (blk_alloc_new _ _))
      have HW3 := hid hW3
      clear hW3
      go_wp2_with fail
      rw [← HW3.out]
      refine visLoop2 w W3 P D HD.out seed R rank HM.out hinj v N G hGn hGs hGp hGO HIH.out a c w2.heap.size (upd E v true) HV0.out hN _ _ _ _ _ _ _ _ _ _ _ _ _ _ _ _ _ _ _ _ _ _ _ _ _ _ _ _ _ _ _ _ _ _ _ _ _ _ _ _ _ _ _ _ _ _ _ _ _ _ _ _ _ _ _ _ _ _ _ _ _ _ _ _ _ _ _ _ _ _ _ _ _ _ _ _ _ _ _ _ _ _ _ _ _ _ _ _ _ _ _ _ _ _ _ _ _ _ _ _ _ _ _ _ _ _ _ _ _ _ _ _ _ _ _ _ _ _ _ _ _ _ _ _ _ _ _ _ _ _ _ _ ?_ ?_
      · intro z8 z9 z10 z11 z12 z73 z74 z75 z76 z77 z78 z79 z80 z81 z82 z83 z84 z85 z86 z87 z88 z89 z90 z91 z92 z93 z94 z95 z96 z97 z98 z99 z100 z101 z102 z103 z104 z105 z106 z107 z108 z109 z110 z111 z112 z113 z114 z115 z116 z117 z118 z119 z120 z121 z122 z123 z124 z125 z126 z127 z128 z129 z130 z131 z132 z133 z134 z135 z136 w4 E4 hg4 he4 ht4
        have HG4 := hid hg4
        have HE4 := hid he4
        have hv : V G E v = (none, E4) := by rw [HVE.out, if_neg (by simp)]; exact ht4
        have HV := hid hv
        clear hg4 he4 ht4 hv m4
        go_wp2
        go_ret
        rw [HV.out]
        exact ⟨HG4.out, HE4.out, _, rfl, .inl ⟨rfl, rfl⟩⟩
      · intro z8 z9 z10 z11 z12 z73 z74 z75 z76 z77 z78 z79 z80 z81 z82 z83 z84 z85 z86 z87 z88 z89 z90 z91 z92 z93 z94 z95 z96 z97 z98 z99 z100 z101 z102 z103 z104 z105 z106 z107 z108 z109 z110 z111 z112 z113 z114 z115 z116 z117 z118 z119 z120 z121 z122 z123 z124 z125 z126 z127 z128 z129 z130 z131 z132 z133 z134 z135 z136 w4 E4 p u hg4 he4 ht4 hpn ho4
        have HG4 := hid hg4
        have HE4 := hid he4
        have HO4 := hid ho4
        have hv : V G E v = (some p, E4) := by rw [HVE.out, if_neg (by simp)]; exact ht4
        have HV := hid hv
        clear hg4 he4 ht4 hv m4 ho4
        go_wp2
        go_ret
        rw [HV.out]
        exact ⟨HG4.out, HE4.out, _, rfl, .inr ⟨p, rfl, hpn, HO4.out⟩⟩

theorem visit_any (P : MP) (D : GD) (hD : D.Ok) (seed R : Nat → Bool) (rank : Nat → Int) (hinj : ∀ x y, 0 ≤ rank x → rank x = rank y → x = y) (w : World) (v : Nat) (hM : Mm w P D seed R rank) (hE : w.rowIs P.EN 4 D.n (fun _ => .bool false)) (hv : v < D.n) :
    Calls Ybaf.prog 9 #[.pointer (some ⟨P.mp, 0, none⟩), .int .i64 (v : Int)] w (VPost w P.EN D.n (V ⟨D.n, seed, D.src, prefL D seed rank R⟩ (fun _ => false) v)) :=
  visit_fuel P D hD seed R rank hinj _ rfl _ w (fun _ => false) v hM hE hv rfl (Nat.le_refl _)

end Go.Proofs.YbulkectmFmt.A
