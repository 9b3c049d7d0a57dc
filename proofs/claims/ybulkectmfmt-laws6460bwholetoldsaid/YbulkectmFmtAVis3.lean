import Derived.Test.YbulkectmFmtAVis1
namespace Go.Proofs.YbulkectmFmt.A
set_option linter.unusedVariables false
set_option linter.unusedSimpArgs false
open Go.RowKit Go.Deep

set_option maxRecDepth 1000000 in
set_option maxHeartbeats 8000000 in
/-- 'for c := range cand { .. }' of visit: the best that is not used. -/
theorem visLoop3 (w : World) (P : MP) (D : GD) (hD : D.Ok) (seed R : Nat → Bool) (rank : Nat → Int) (hM : Mm w P D seed R rank) (L : List Nat) (hL : ∀ e ∈ L, e < D.m) (hlen : L.length ≤ 2048)
    (a : Option Addr) (c : Nat) (hc : ∀ j (h : j < L.length), ∃ b, a = some ⟨b, 0, none⟩ ∧ w.cell? ⟨b, j, none⟩ = some (.int .i64 ((L[j] : Nat) : Int))) (UB : Nat) (used : Nat → Bool) (hU : ∀ i, i < L.length → w.cell? ⟨UB, i, none⟩ = some (.bool (used i)))
    (Q : Exit → Act → World → Prop) (s1 s2 s3 s4 s6 s8 s10 s11 s12 s13 s14 s15 s16 s17 s18 s19 s20 s21 s22 s23 s24 s25 s26 s27 s28 s29 s30 s31 s32 s33 s34 s35 s36 s37 s38 s39 s40 s41 s42 s43 s44 s45 s46 s47 s48 s49 s50 s51 s52 s53 s54 s55 s56 s57 s58 s59 s60 s61 s62 s63 s64 s65 s66 s67 s68 s69 s70 s71 s72 s73 s74 s75 s76 s77 s78 s79 s82 s83 s84 s85 s86 s87 s88 s89 s90 s91 s92 s93 s94 s95 s96 s97 s98 s99 s100 s101 s102 s103 s104 s105 s106 s107 s108 s109 s110 s111 s112 s113 s114 s115 s116 s117 s118 s119 s120 s121 s122 s123 s124 s125 s126 s127 s128 s129 s130 s131 s132 s133 s134 s135 s136 : Value)
    (hQ : ∀ (v10 v81 v82 v83 v84 v85 v86 v87 v88 v89 v90 v91 v92 v93 v94 v95 v96 v97 v98 v99 v100 v101 v102 v103 v104 v105 v106 : Value) (b : Option Nat) (d : Nat), Best D rank L used L.length b → Q .normal ⟨#[.pointer (some ⟨P.mp, 0, none⟩), s1, s2, s3, s4, .slice a L.length c, s6, .slice (some ⟨UB, 0, none⟩) L.length L.length, s8, toV b, v10, s11, s12, s13, s14, s15, s16, s17, s18, s19, s20, s21, s22, s23, s24, s25, s26, s27, s28, s29, s30, s31, s32, s33, s34, s35, s36, s37, s38, s39, s40, s41, s42, s43, s44, s45, s46, s47, s48, s49, s50, s51, s52, s53, s54, s55, s56, s57, s58, s59, s60, s61, s62, s63, s64, s65, s66, s67, s68, s69, s70, s71, s72, s73, s74, s75, s76, s77, s78, s79, .int .i64 (L.length : Int), v81, v82, v83, v84, v85, v86, v87, v88, v89, v90, v91, v92, v93, v94, v95, v96, v97, v98, v99, v100, v101, v102, v103, v104, v105, v106, s107, s108, s109, s110, s111, s112, s113, s114, s115, s116, s117, s118, s119, s120, s121, s122, s123, s124, s125, s126, s127, s128, s129, s130, s131, s132, s133, s134, s135, s136], []⟩ (w.drewN d)) :
    Code.wp Ybaf.prog ((Ybaf.f9.body.bind (findLoop 17)).getD .skip) (Exit.inBlock 4 Q) ⟨#[.pointer (some ⟨P.mp, 0, none⟩), s1, s2, s3, s4, .slice a L.length c, s6, .slice (some ⟨UB, 0, none⟩) L.length L.length, s8, .int .i64 (-1), s10, s11, s12, s13, s14, s15, s16, s17, s18, s19, s20, s21, s22, s23, s24, s25, s26, s27, s28, s29, s30, s31, s32, s33, s34, s35, s36, s37, s38, s39, s40, s41, s42, s43, s44, s45, s46, s47, s48, s49, s50, s51, s52, s53, s54, s55, s56, s57, s58, s59, s60, s61, s62, s63, s64, s65, s66, s67, s68, s69, s70, s71, s72, s73, s74, s75, s76, s77, s78, s79, .int .i64 (L.length : Int), .int .i64 0, s82, s83, s84, s85, s86, s87, s88, s89, s90, s91, s92, s93, s94, s95, s96, s97, s98, s99, s100, s101, s102, s103, s104, s105, s106, s107, s108, s109, s110, s111, s112, s113, s114, s115, s116, s117, s118, s119, s120, s121, s122, s123, s124, s125, s126, s127, s128, s129, s130, s131, s132, s133, s134, s135, s136], []⟩ w := by
  conv => arg 2; whnf
  conv => arg 4; dsimp only
  go_loopw [9, 81] (fun bv x wr => ∃ (k : Nat) (b : Option Nat), k ≤ L.length ∧ x = .int .i64 k ∧ bv = toV b ∧ Best D rank L used k b ∧ ∃ d, wr = w.drewN d) (fun _ x _ => L.length - (intOf x).toNat)
  case atStart => exact ⟨0, none, Nat.zero_le _, rfl, rfl, best_zero, 0, rfl⟩
  case round =>
    obtain ⟨k, b, hk, rfl, rfl, hB, d, hwr⟩ := hrel
    by_cases hlt : k < L.length
    · have HWR := hid hwr
      have hBl : Below w.heap.size w wr := by rw [hwr]; exact below_drewN (Below.refl _ _) d
      have u0 := cell_old hBl (hU k hlt)
      obtain ⟨cb, rfl, c0⟩ := hc k hlt
      have c1 := cell_old hBl c0
      have i0 : (0 : Int) ≤ (k : Int) := by omega
      have i1 : (k : Int) < (L.length : Int) := by omega
      obtain ⟨ek, hek⟩ : ∃ e, e = L[k] := ⟨_, rfl⟩
      have hek2 : L.getD k 0 = ek := by rw [hek]; exact getD_get hlt
      have hekm : ek < D.m := by rw [hek]; exact hL _ (List.getElem_mem hlt)
      rw [← hek] at c1
      obtain ⟨us, hus⟩ : ∃ u, u = used k := ⟨_, rfl⟩
      rw [← hus] at u0
      cases us with
      | true =>
        have HB2 := hid (best_used hB hus.symm)
        clear hwr hBl hU hc c0 hek hek2 hus hB hM hL hD
        go_wp2_with fail
        go_quiet (fail)
        obtain ⟨W2, hW2⟩ : ∃ W2, W2 = wr.drewN nq := ⟨_, rfl⟩
        have HD2 : Hid (∃ d, W2 = w.drewN d) := hid ⟨d + nq, by rw [hW2, HWR.out, World.drewN_drewN]⟩
        rw [← hW2]
        clear hW2 HWR
        go_wp2
        go_roundw
        case rel => exact ⟨k + 1, b, by omega, by go_num, by first | rfl | go_num, HB2.out, HD2.out⟩
        case measure => simp [intOf]; omega
      | false =>
        cases b with
        | none =>
          have HB2 := hid (best_first hB hus.symm)
          rw [show toV none = .int .i64 (-1) from rfl]
          clear hwr hBl hU hc c0 hek hek2 hus hB hM hL hD
          go_wp2_with fail
          go_quiet (fail)
          obtain ⟨W2, hW2⟩ : ∃ W2, W2 = wr.drewN nq := ⟨_, rfl⟩
          have HD2 : Hid (∃ d, W2 = w.drewN d) := hid ⟨d + nq, by rw [hW2, HWR.out, World.drewN_drewN]⟩
          rw [← hW2]
          clear hW2 HWR
          go_wp2
          go_roundw
          case rel => exact ⟨k + 1, some k, by omega, by go_num, by first | rfl | go_num, HB2.out, HD2.out⟩
          case measure => simp [intOf]; omega
        | some i =>
          have hik := best_lt hB
          have hil : i < L.length := by omega
          obtain ⟨cb2, e2, c2'⟩ := hc i hil
          cases e2
          have c2 := cell_old hBl c2'
          obtain ⟨ei, hei⟩ : ∃ e, e = L[i] := ⟨_, rfl⟩
          have hei2 : L.getD i 0 = ei := by rw [hei]; exact getD_get hil
          have heim : ei < D.m := by rw [hei]; exact hL _ (List.getElem_mem hil)
          rw [← hei] at c2
          have n0 : (0 : Int) ≤ (i : Int) := by omega
          have n1 : (i : Int) < (L.length : Int) := by omega
          have n2 : decide ((i : Int) < 0) = false := by simp
          rw [show toV (some i) = .int .i64 (i : Int) from rfl]
          have HBE : Hid (∀ d', Calls Ybaf.prog 15 #[.pointer (some ⟨P.mp, 0, none⟩), .int .i64 (ek : Int), .int .i64 (ei : Int)] (wr.drewN d') fun r w' => r = .returned (.bool (ltE D rank ek ei)) ∧ ∃ n, w' = (wr.drewN d').drewN n) := hid (fun d' => better_any (wr.drewN d') P D hD seed R rank (hM.keep (grown_of_below (below_drewN hBl d') _)) ek ei hekm heim)
          obtain ⟨lt, hlt2⟩ : ∃ l, l = ltE D rank ek ei := ⟨_, rfl⟩
          rw [← hlt2] at HBE
          cases lt with
          | true =>
            have HB2 := hid (best_better hB hus.symm (by rw [hek2, hei2, ← hlt2]))
            clear hwr hBl hU hc c0 c2' hek hek2 hei hei2 hus hB hM hL hD hlt2 hekm heim
            go_wp2_with fail
            go_quiet ((go_at_call 15; exact Calls.quiet_of (HBE.out _)))
            obtain ⟨W2, hW2⟩ : ∃ W2, W2 = wr.drewN nq := ⟨_, rfl⟩
            have HD2 : Hid (∃ d, W2 = w.drewN d) := hid ⟨d + nq, by rw [hW2, HWR.out, World.drewN_drewN]⟩
            rw [← hW2]
            clear hW2 HWR
            go_wp2
            go_roundw
            case rel => exact ⟨k + 1, some k, by omega, by go_num, by first | rfl | go_num, HB2.out, HD2.out⟩
            case measure => simp [intOf]; omega
          | false =>
            have HB2 := hid (best_worse hB hus.symm (by rw [hek2, hei2, ← hlt2]))
            clear hwr hBl hU hc c0 c2' hek hek2 hei hei2 hus hB hM hL hD hlt2 hekm heim
            go_wp2_with fail
            go_quiet ((go_at_call 15; exact Calls.quiet_of (HBE.out _)))
            obtain ⟨W2, hW2⟩ : ∃ W2, W2 = wr.drewN nq := ⟨_, rfl⟩
            have HD2 : Hid (∃ d, W2 = w.drewN d) := hid ⟨d + nq, by rw [hW2, HWR.out, World.drewN_drewN]⟩
            rw [← hW2]
            clear hW2 HWR
            go_wp2
            go_roundw
            case rel => exact ⟨k + 1, some i, by omega, by go_num, by first | rfl | go_num, HB2.out, HD2.out⟩
            case measure => simp [intOf]; omega
    · have e : k = L.length := by omega
      subst e
      subst hwr
      have HB := hid hB
      clear hc hU hM hB
      go_wp2
      first | exact HB.out | exact hQ _ _ _ _ _ _ _ _ _ _ _ _ _ _ _ _ _ _ _ _ _ _ _ _ _ _ _ b d HB.out

end Go.Proofs.YbulkectmFmt.A
