import Derived.Test.YbulkecuoBHold
import Derived.Test.YbulkecuoBLoop7
import Derived.Test.YbulkecuoBLoop8
import Derived.Test.YbulkecuoBMod6
import Derived.Test.YbulkecuoBAll
namespace Go.Proofs.Ybulkecuo.B
set_option linter.unusedVariables false
set_option linter.unusedSimpArgs false
open Go.RowKit Go.Deep

theorem info26 : (Yba.prog.info? 26).map (fun i => (i.zero, i.size, i.bytes)) = some (some (.pointer none), 1, 8) := by kernel_rfl
theorem eql29 (w : World) (a : Option Addr) (n c : Nat) : (binOp .eql 29 (.slice a n c) (.slice none 0 0)).run Yba.prog w = .ok (.bool a.isNone) w := by
  simp only [binOp]
  simp [Op.equal, Op.maxDepth, run_equalIn_slice_nil w 9999 29 47 a n c Yba.underlying29]
theorem hold_zero (w1 : World) (R T0 : Nat) (hR : R = w1.heap.size) : Hold w1 (w1.alloc (.cells (resC (.slice none 0 0) (.pointer none) (.pointer none)) 52)) R T0 (.slice none 0 0) [] := by
  subst hR
  exact ⟨(Below.refl _ _).alloc (Nat.le_refl _) _, blk_alloc_new _ _, ⟨rfl, .inl ⟨rfl, rfl⟩⟩, fun _ => rfl⟩

set_option maxRecDepth 1000000 in
set_option maxHeartbeats 8000000 in
theorem main_walk (G xa : Int) (a0 a1 : Option Addr) (n0 c0 n1 c1 : Nat) (T M T' M' : Nat → Int) (w : World) (hs : n0 + n1 ≤ 65536) (h1 : 0 < n1) (hc0 : Came2 w a0 n0 T M) (hc1 : Came2 w a1 n1 T' M')
    (bT : ∀ i, 0 ≤ T i ∧ T i ≤ 255) (bM : ∀ i, 0 ≤ M i ∧ M i ≤ 255) (bT' : ∀ i, 0 ≤ T' i ∧ T' i ≤ 255) (bM' : ∀ i, 0 ≤ M' i ∧ M' i ≤ 255) (bG : 0 ≤ G ∧ G ≤ 255) (bx : 0 ≤ xa ∧ xa ≤ 255) :
    Calls Yba.prog 4 #[.slice a0 n0 c0, .slice a1 n1 c1, .int .u8 xa, .int .u8 G] w fun e w' => e = .returned (.bool true) ∧ Below w.heap.size w w' := by
  have t1 : decide ((65536 : Int) < (n0 : Int) + (n1 : Int)) = false := by simp; omega
  have t2 : ((n1 : Int) == 0) = false := by simp; omega
  have t3 : IntKind.i64.wrap ((n0 : Int) + (n1 : Int)) = (n0 : Int) + (n1 : Int) := by rw [IntKind.wrap_i64]; omega
  go_enter Yba.func4, Yba.ntmps4
  go_wp2
  refine loop1 w _ w.heap.size G (pool_zero w G) _ _ _ _ _ _ _ _ _ _ _ _ _ _ _ _ _ _ _ _ _ _ _ _ _ _ _ _ _ _ _ _ _ _ _ _ _ _ _ _ _ _ _ _ _ _ _ _ _ _ _ _ _ _ _ _ _ _ _ _ _ _ _ _ _ _ _ _ _ _ _ _ _ _ _ _ _ _ _ _ _ _ _ _ _ _ _ _ _ _ _ _ _ _ _ _ _ _ _ _ _ _ _ _ _ _ _ _ _ _ _ _ _ _ _ _ _ _ _ _ _ _ _ _ _ _ _ _ _ _ _ _ _ _ _ _ _ _ _ _ _ _ _ _ _ _ _ _ _ _ _ _ _ _ _ _ _ _ _ _ _ _ _ _ _ _ _ _ _ _ _ _ _ _ _ _ _ _ _ _ _ _ _ _ _ _ _ _ _ _ _ _ _ _ _ _ _ _ _ _ _ _ _ _ _ _ _ _ _ _ _ _ _ _ _ _ _ _ _ _ _ _ _ _ _ _ _ _ _ _ _ _ _ _ _ _ _ _ _ _ _ _ _ _ _ _ _ _ _ _ _ _ _ _ _ _ _ _ _ _ _ _ _ _ _ _ _ _ _ _ _ _ _ _ _ _ _ _ _ _ _ _ _ _ _ _ _ _ _ _ _ _ _ _ _ _ _ _ _ _ _ _ _ _ _ _ _ _ _ _ _ _ _ _ _ _ _ _ _ _ _ _ _ _ _ _ _ _ _ _ _ _ _ _ _ _ _ _ _ _ _ _ _ _ _ _ _ _ _ _ _ _ _ _ _ _ _ _ _ _ _ _ _ _ _ _ _ _ _ _ _ _ _ _ _ _ _ _ _ _ _ _ _ _ _ _ _ _ _ _ _ _ _ _ _ _ _ _ _ _ _ _ _ _ _ _ _ ?_
  intro p10 p51 p52 p53 p54 p55 p56 p57 p58 p59 w1 hP
  clear t1 t2 t3
  go_wp2
  obtain ⟨R, hR⟩ : ∃ R, R = w1.heap.size := ⟨_, rfl⟩
  rw [← hR]
  have hRg : R = w.heap.size + 10 := by rw [hR]; exact hP.size
  have HZ := hid (hold_zero w1 R (w.heap.size + 2) hR)
  unfold resC at HZ
  obtain ⟨gb, hgb⟩ : ∃ gb, gb = w.heap.size := ⟨_, rfl⟩
  rw [← hgb] at hP hRg HZ ⊢
  have HRW := hid hR
  have HGB := hid hgb
  have HRG := hid hRg
  clear hR hgb hRg
  refine loop2 w w1 _ gb R G a0 n0 c0 T M hc0 HGB.out hP HRG.out (by omega) bT bM HZ.out _ _ _ _ _ _ _ _ _ _ _ _ _ _ _ _ _ _ _ _ _ _ _ _ _ _ _ _ _ _ _ _ _ _ _ _ _ _ _ _ _ _ _ _ _ _ _ _ _ _ _ _ _ _ _ _ _ _ _ _ _ _ _ _ _ _ _ _ _ _ _ _ _ _ _ _ _ _ _ _ _ _ _ _ _ _ _ _ _ _ _ _ _ _ _ _ _ _ _ _ _ _ _ _ _ _ _ _ _ _ _ _ _ _ _ _ _ _ _ _ _ _ _ _ _ _ _ _ _ _ _ _ _ _ _ _ _ _ _ _ _ _ _ _ _ _ _ _ _ _ _ _ _ _ _ _ _ _ _ _ _ _ _ _ _ _ _ _ _ _ _ _ _ _ _ _ _ _ _ _ _ _ _ _ _ _ _ _ _ _ _ _ _ _ _ _ _ _ _ _ _ _ _ _ _ _ _ _ _ _ _ _ _ _ _ _ _ _ _ _ _ _ _ _ _ _ _ _ _ _ _ _ _ _ _ _ _ _ _ _ _ _ _ _ _ _ _ _ _ _ _ _ _ _ _ _ _ _ _ _ _ _ _ _ _ _ _ _ _ _ _ _ _ _ _ _ _ _ _ _ _ _ _ _ _ _ _ _ _ _ _ _ _ _ _ _ _ _ _ _ _ _ _ _ _ _ _ _ _ _ _ _ _ _ _ _ _ _ _ _ _ _ _ _ _ _ _ _ _ _ _ _ _ _ _ _ _ _ _ _ _ _ _ _ _ _ _ _ _ _ _ _ _ _ _ _ _ _ _ _ _ _ _ _ _ _ _ _ _ _ _ _ _ _ _ _ _ _ _ _ _ _ _ _ _ _ _ _ _ _ _ _ _ _ _ _ _ _ _ _ _ _ _ _ ?_
  rintro q13 q64 q65 q66 q67 q68 q69 q70 q71 q72 q73 q74 q75 q76 q77 q78 q79 q80 q81 q82 q83 q84 q85 q86 w2 ⟨Hv, hH⟩
  clear HZ
  have m59 := run_make_row' (P := Yba.prog) 59 26 (.pointer none) 8 Yba.underlying59 info26 rfl .i64 .i64 n1 (by omega) (by omega)
  go_wp2
  obtain ⟨NB, hNB⟩ : ∃ NB, NB = w2.heap.size := ⟨_, rfl⟩
  rw [← hNB]
  have hRl := hH.lt
  have hgR : gb + 10 ≤ R := by have := HRG.out; omega
  have hRN : R < NB := by omega
  have hbw2 : Below w.heap.size w w2 := by rw [← HGB.out]; exact hP.below.trans (hH.below.mono (by omega))
  have hpool2 : ∀ i, i < 8 → w2.cell? ⟨gb + 1, i, none⟩ = some (.pointer (some ⟨gb + 2 + i, 0, none⟩)) := fun i hi => by
    have hc1 := hP.pool.cell hi
    simp only [if_pos hi] at hc1
    exact cell_keep hH.below (by omega) hc1
  refine loop3 w2 _ gb R NB n1 c1 a1 T' M' (hc1.keep hbw2) hNB (by omega) hpool2 (by omega) bT' bM' (nodes_zero w2 NB (gb + 2) R n1 T' M' hNB) _ _ _ _ _ _ _ _ _ _ _ _ _ _ _ _ _ _ _ _ _ _ _ _ _ _ _ _ _ _ _ _ _ _ _ _ _ _ _ _ _ _ _ _ _ _ _ _ _ _ _ _ _ _ _ _ _ _ _ _ _ _ _ _ _ _ _ _ _ _ _ _ _ _ _ _ _ _ _ _ _ _ _ _ _ _ _ _ _ _ _ _ _ _ _ _ _ _ _ _ _ _ _ _ _ _ _ _ _ _ _ _ _ _ _ _ _ _ _ _ _ _ _ _ _ _ _ _ _ _ _ _ _ _ _ _ _ _ _ _ _ _ _ _ _ _ _ _ _ _ _ _ _ _ _ _ _ _ _ _ _ _ _ _ _ _ _ _ _ _ _ _ _ _ _ _ _ _ _ _ _ _ _ _ _ _ _ _ _ _ _ _ _ _ _ _ _ _ _ _ _ _ _ _ _ _ _ _ _ _ _ _ _ _ _ _ _ _ _ _ _ _ _ _ _ _ _ _ _ _ _ _ _ _ _ _ _ _ _ _ _ _ _ _ _ _ _ _ _ _ _ _ _ _ _ _ _ _ _ _ _ _ _ _ _ _ _ _ _ _ _ _ _ _ _ _ _ _ _ _ _ _ _ _ _ _ _ _ _ _ _ _ _ _ _ _ _ _ _ _ _ _ _ _ _ _ _ _ _ _ _ _ _ _ _ _ _ _ _ _ _ _ _ _ _ _ _ _ _ _ _ _ _ _ _ _ _ _ _ _ _ _ _ _ _ _ _ _ _ _ _ _ _ _ _ _ _ _ _ _ _ _ _ _ _ _ _ _ _ _ _ _ _ _ _ _ _ _ _ _ _ _ _ _ _ _ _ _ _ _ _ _ _ _ _ _ _ _ _ _ _ _ _ ?_
  intro r15 r16 r92 r93 r94 r95 r96 r97 r98 r99 r100 r101 r102 r103 r104 r105 r106 r107 r108 r109 r110 r111 w3 hN
  clear m59
  have HNB := hid hNB
  clear hNB
  go_wp2
  refine loop4 w2 w3 NB (gb + 2) R n1 T' M' (by omega) h1 (links_zero hN) _ _ _ _ _ _ _ _ _ _ _ _ _ _ _ _ _ _ _ _ _ _ _ _ _ _ _ _ _ _ _ _ _ _ _ _ _ _ _ _ _ _ _ _ _ _ _ _ _ _ _ _ _ _ _ _ _ _ _ _ _ _ _ _ _ _ _ _ _ _ _ _ _ _ _ _ _ _ _ _ _ _ _ _ _ _ _ _ _ _ _ _ _ _ _ _ _ _ _ _ _ _ _ _ _ _ _ _ _ _ _ _ _ _ _ _ _ _ _ _ _ _ _ _ _ _ _ _ _ _ _ _ _ _ _ _ _ _ _ _ _ _ _ _ _ _ _ _ _ _ _ _ _ _ _ _ _ _ _ _ _ _ _ _ _ _ _ _ _ _ _ _ _ _ _ _ _ _ _ _ _ _ _ _ _ _ _ _ _ _ _ _ _ _ _ _ _ _ _ _ _ _ _ _ _ _ _ _ _ _ _ _ _ _ _ _ _ _ _ _ _ _ _ _ _ _ _ _ _ _ _ _ _ _ _ _ _ _ _ _ _ _ _ _ _ _ _ _ _ _ _ _ _ _ _ _ _ _ _ _ _ _ _ _ _ _ _ _ _ _ _ _ _ _ _ _ _ _ _ _ _ _ _ _ _ _ _ _ _ _ _ _ _ _ _ _ _ _ _ _ _ _ _ _ _ _ _ _ _ _ _ _ _ _ _ _ _ _ _ _ _ _ _ _ _ _ _ _ _ _ _ _ _ _ _ _ _ _ _ _ _ _ _ _ _ _ _ _ _ _ _ _ _ _ _ _ _ _ _ _ _ _ _ _ _ _ _ _ _ _ _ _ _ _ _ _ _ _ _ _ _ _ _ _ _ _ _ _ _ _ _ _ _ _ _ _ _ _ _ _ _ _ _ _ _ _ _ ?_
  intro t17 t112 t113 t114 t115 t116 t117 t118 t119 t120 t121 t122 t123 t124 t125 t126 t127 t128 t129 w4 hLk
  clear hN w3
  obtain ⟨qpos, hqp⟩ : ∃ q : Nat, (xa % (n1 : Int)) = (q : Int) := ⟨(xa % (n1 : Int)).toNat, (Int.toNat_of_nonneg (Int.emod_nonneg _ (by omega))).symm⟩
  have hq : qpos < n1 := by have := Int.emod_lt_of_pos xa (show (0 : Int) < n1 by omega); omega
  obtain ⟨xi, hxi⟩ : ∃ xi : Nat, xi = (T' qpos % 8).toNat := ⟨_, rfl⟩
  have hx8 : xi < 8 := by rw [hxi]; omega
  have hAll := all_ready (nh := n0) hP HRG.out HNB.out hRN hH (hsTo_length T M n0) hLk hq hxi hx8
  obtain ⟨bx0, bx1⟩ := bx
  have hqt : xa.tmod (n1 : Int) = (qpos : Int) := by rw [Int.tmod_eq_emod_of_nonneg bx0]; exact hqp
  have res4 : w4.heap[R]? = some (.cells (resC Hv (.pointer none) (.pointer none)) 52 (0, 0)) := (hLk.below.block R hRN).trans hH.res
  have tx4 : w4.heap[gb + 2 + xi]? = some (.cells (txnC xi (.pointer none)) 33 (0, 0)) := (hLk.below.block _ (by omega)).trans ((hH.below.block _ (by omega)).trans (hP.txs xi hx8))
  have y5 : w4.cell? ⟨R, 5, none⟩ = some (.pointer none) := by simp [World.cell?, res4, resC]
  have y6 : w4.cell? ⟨R, 6, none⟩ = some (.pointer none) := by simp [World.cell?, res4, resC]
  have y3 : w4.cell? ⟨R, 3, none⟩ = some Hv := by simp [World.cell?, res4, resC]
  have f5 : w4.frozen? ⟨R, 5, none⟩ = false := by simp [World.frozen?, res4]
  have f6 : w4.frozen? ⟨R, 6, none⟩ = false := by simp [World.frozen?, res4]
  have x4 : w4.cell? ⟨gb + 2 + xi, 4, none⟩ = some (.pointer none) := by simp [World.cell?, tx4, txnC]
  have fx4 : w4.frozen? ⟨gb + 2 + xi, 4, none⟩ = false := by simp [World.frozen?, tx4]
  have na := hLk.nodes.cell h1
  have nl := hLk.nodes.cell (show n1 - 1 < n1 by omega)
  have nq := hLk.nodes.cell hq
  unfold P at na nl nq
  have nq0 : w4.cell? ⟨NB + 2 + 2 * qpos, 0, none⟩ = some (.pointer (some ⟨gb + 2 + xi, 0, none⟩)) := by
    have := hLk.req qpos hq
    simp [World.cell?, this, reqC, hxi]
  have lR4 : R < w4.heap.size := lt_of_cell y5
  have lX4 : gb + 2 + xi < w4.heap.size := lt_of_cell x4
  rw [show NB + 2 + 2 * 0 = NB + 2 from by omega] at na
  obtain ⟨X, eX⟩ : ∃ X, X = gb + 2 + xi := ⟨_, rfl⟩
  obtain ⟨A, eA⟩ : ∃ A, A = NB + 2 := ⟨_, rfl⟩
  obtain ⟨B, eB⟩ : ∃ B, B = NB + 2 + 2 * (n1 - 1) := ⟨_, rfl⟩
  obtain ⟨Q0, eQ⟩ : ∃ Q0, Q0 = NB + 2 + 2 * qpos := ⟨_, rfl⟩
  rw [← eX] at x4 fx4 nq0 lX4
  rw [← eA] at na
  rw [← eB] at nl
  rw [← eQ] at nq nq0
  obtain ⟨W5, hW5⟩ : ∃ W5, W5 = w5of w4 R A B X Q0 := ⟨_, rfl⟩
  have HA : Hid (All w W5 gb R NB n1 qpos xi n0 Hv (hsTo T M n0) T' M' G) := hid (by rw [hW5, eA, eB, eX, eQ]; exact hAll)
  have c1 : ¬ R = NB := by omega
  have c2 : ¬ NB = R := by omega
  have c3 : ¬ X = R := by omega
  have c4 : ¬ R = X := by omega
  have c5 : ¬ R = Q0 := by omega
  have c6 : ¬ Q0 = R := by omega
  have c7 : ¬ X = NB := by omega
  have c8 : ¬ X = Q0 := by omega
  have HEX := hid eX
  have HEA := hid eA
  have HEB := hid eB
  have HEQ := hid eQ
  have HW5 := hid hW5
  unfold w5of at HW5
  have HXI := hid hxi
  have hcl := clone_any (R + 1) n0 Hv (tb (gb + 2) (hsTo T M n0)) W5 HA.out.own (by omega) (fun e => hH.nil (by subst e; rfl))
  have j1 : IntKind.i64.wrap ((n1 : Int) - 1) = (n1 : Int) - 1 := by rw [IntKind.wrap_i64]; omega
  have j2 : ((n1 : Int) - 1).toNat = n1 - 1 := by omega
  have j3 : (0 : Int) ≤ (n1 : Int) - 1 := by omega
  have j4 : (n1 : Int) - 1 < (n1 : Int) := by omega
  have j5 : (0 : Int) ≤ (qpos : Int) := by omega
  have j6 : (qpos : Int) < (n1 : Int) := by omega
  have j7 : (0 : Int) < (n1 : Int) := by omega
  have j8 : ¬ (n1 : Int) = 0 := by omega
  clear hAll hP hH hLk res4 tx4 eX eA eB eQ hW5 hxi
  go_wp2_with fail
  rw [← HW5.out]
  refine hcl.mono ?_
  rintro e w6 ⟨Hc, rfl, hoc, hb6⟩
  have HA6 := hid (HA.out.keep hb6)
  have HOC := hid hoc
  clear hcl y3 y5 y6 f5 f6 x4 fx4 na nl nq nq0 lR4 lX4 j1 j2 j3 j4 j7 j8 HW5 hb6 hoc hqp hqt
  obtain ⟨qm, eqm⟩ : ∃ qm, qm = M' qpos % 3 := ⟨_, rfl⟩
  have hrt : ∀ j, (rqOf T' M' j).t < 8 := fun j => by unfold rqOf; simp only; have := bT' j; omega
  have hht : ∀ e ∈ hsTo T M n0, e.1 < 8 := fun e he => by
    unfold hsTo at he
    obtain ⟨i, _, rfl⟩ := List.mem_map.1 he
    simp only
    have := bT i
    omega
  have hlet : ∀ O, Calls Yba.prog 11 #[.pointer (some ⟨w6.heap.size, 0, none⟩), .pointer (some ⟨X, 0, none⟩), .func (.func 9) #[] #[.pointer (some ⟨gb, 0, none⟩)]] (w6.alloc O) fun e w' => ∃ v, e = .returned v ∧ LetPost (run G xi qpos qm (rqOf T' M') (notGone G (hsTo T M n0) n0) n1) (w6.alloc O).heap.size (gb + 2) v w' ∧ Below (w6.alloc O).heap.size (w6.alloc O) w' := fun O => by
    have hA7 := HA6.out.keep ((Below.refl w6.heap.size w6).alloc (Nat.le_refl _) O)
    have := let_walk w6.heap.size (gb + 2) R gb n1 xi qpos n0 (fun j => NB + 2 + 2 * j) (rqOf T' M') G (hsTo T M n0) Hv (w6.alloc O) hA7.store (fun i j _ _ e => by have e' : NB + 2 + 2 * i = NB + 2 + 2 * j := e; omega) h1 hq (by omega) (by unfold rqOf; exact HXI.out.symm) hrt hht (R + 1) hA7.r3 hA7.own
    rw [hsTo_length] at this
    rw [HEX.out, eqm]
    exact this
  have HQM := hid eqm
  have HHT := hid hht
  clear eqm hht
  go_wp2_with fail
  refine (hlet _).mono ?_
  rintro e w7 ⟨got, rfl, hpost, hb7⟩
  have hb67 : Below w6.heap.size w6 w7 := ((Below.refl w6.heap.size w6).alloc (Nat.le_refl _) _).trans (hb7.mono (by rw [nblk_alloc]; omega))
  have HA7 := hid (HA6.out.keep hb67)
  have HOC7 := hid (own_keep hb67 HOC.out)
  have HPO : Hid (∃ bb, LetPost (run G xi qpos qm (rqOf T' M') (notGone G (hsTo T M n0) n0) n1) bb (gb + 2) got w7) := hid ⟨_, hpost⟩
  clear hlet hpost hb7 hb67 HA6 HOC
  have hbw7 : Below w.heap.size w w7 := by rw [← HGB.out]; exact HA7.out.below
  have hg7 := HA7.out.store.gbc
  go_wp2
  obtain ⟨SB, hSB⟩ : ∃ SB, SB = w7.heap.size := ⟨_, rfl⟩
  rw [← hSB]
  refine loop5 w7 _ gb SB G a0 n0 c0 T M (hc0.keep hbw7) hg7 bG ⟨by omega, by omega⟩ (by omega) bT bM (mod_zero w7 SB hSB) _ _ _ _ _ _ _ _ _ _ _ _ _ _ _ _ _ _ _ _ _ _ _ _ _ _ _ _ _ _ _ _ _ _ _ _ _ _ _ _ _ _ _ _ _ _ _ _ _ _ _ _ _ _ _ _ _ _ _ _ _ _ _ _ _ _ _ _ _ _ _ _ _ _ _ _ _ _ _ _ _ _ _ _ _ _ _ _ _ _ _ _ _ _ _ _ _ _ _ _ _ _ _ _ _ _ _ _ _ _ _ _ _ _ _ _ _ _ _ _ _ _ _ _ _ _ _ _ _ _ _ _ _ _ _ _ _ _ _ _ _ _ _ _ _ _ _ _ _ _ _ _ _ _ _ _ _ _ _ _ _ _ _ _ _ _ _ _ _ _ _ _ _ _ _ _ _ _ _ _ _ _ _ _ _ _ _ _ _ _ _ _ _ _ _ _ _ _ _ _ _ _ _ _ _ _ _ _ _ _ _ _ _ _ _ _ _ _ _ _ _ _ _ _ _ _ _ _ _ _ _ _ _ _ _ _ _ _ _ _ _ _ _ _ _ _ _ _ _ _ _ _ _ _ _ _ _ _ _ _ _ _ _ _ _ _ _ _ _ _ _ _ _ _ _ _ _ _ _ _ _ _ _ _ _ _ _ _ _ _ _ _ _ _ _ _ _ _ _ _ _ _ _ _ _ _ _ _ _ _ _ _ _ _ _ _ _ _ _ _ _ _ _ _ _ _ _ _ _ _ _ _ _ _ _ _ _ _ _ _ _ _ _ _ _ _ _ _ _ _ _ _ _ _ _ _ _ _ _ _ _ _ _ _ _ _ _ _ _ _ _ _ _ _ _ _ _ _ _ _ _ _ _ _ _ _ _ _ _ _ _ _ _ _ _ _ _ _ _ _ _ _ _ ?_
  intro u28 u29 u176 u177 u178 u179 u180 u181 u182 u183 u184 u185 u186 u187 u188 u189 u190 u191 u192 u193 u194 u195 u196 u197 u198 w8 hM
  have HSB := hid hSB
  clear hSB
  obtain ⟨b, off, ea1, hcs⟩ := (hc1.keep hbw7) qpos hq
  subst ea1
  have hck := hcs qpos hq
  have hB8 : Below w7.heap.size w7 w8 := by rw [← HSB.out]; exact hM.below
  have d0 := cell_keep hB8 (lt_of_cell hck.1) hck.1
  have d1 := cell_keep hB8 (lt_of_cell hck.2) hck.2
  have bt := bT' qpos
  have bm := bM' qpos
  obtain ⟨tt, ett⟩ : ∃ tt, tt = T' qpos := ⟨_, rfl⟩
  obtain ⟨mm, emm⟩ : ∃ mm, mm = M' qpos := ⟨_, rfl⟩
  have hti : tt % 8 = (xi : Int) := by rw [ett, HXI.out]; omega
  have hqm := HQM.out
  rw [← ett] at d0 bt
  rw [← emm] at d1 bm hqm
  obtain ⟨ht0, ht1⟩ := bt
  obtain ⟨hm0, hm1⟩ := bm
  have hti2 : tt.tmod 8 = (xi : Int) := by rw [Int.tmod_eq_emod_of_nonneg ht0]; exact hti
  have hm8 := fun W => mode_any mm hm0 hm1 W
  rw [← hqm] at hm8
  have lbw : b < w8.heap.size := lt_of_cell d0
  clear ett emm hqm hck hcs
  have hM8 := hid hM
  clear hM
  go_wp2_with (first | (go_at_call 8; refine (hm8 _).mono ?_; rintro e w' ⟨rfl, rfl⟩))
  have hh0 : ∀ e ∈ notGone G (hsTo T M n0) n0, e.1 < 8 := fun e he => HHT.out e (notGone_mem he)
  have hsb1 : SB ≤ w7.heap.size := by have := HSB.out; omega
  have hsb2 : w7.heap.size ≤ SB := by have := HSB.out; omega
  refine loop6 w7 _ gb SB qpos xi G qm _ n1 _ T' M' (notGone G (hsTo T M n0) n0) (hc1.keep hbw7) hg7 ⟨hsb1, hsb2⟩ (by omega) bT' bM' hh0 hrt hM8.out _ _ _ _ _ _ _ _ _ _ _ _ _ _ _ _ _ _ _ _ _ _ _ _ _ _ _ _ _ _ _ _ _ _ _ _ _ _ _ _ _ _ _ _ _ _ _ _ _ _ _ _ _ _ _ _ _ _ _ _ _ _ _ _ _ _ _ _ _ _ _ _ _ _ _ _ _ _ _ _ _ _ _ _ _ _ _ _ _ _ _ _ _ _ _ _ _ _ _ _ _ _ _ _ _ _ _ _ _ _ _ _ _ _ _ _ _ _ _ _ _ _ _ _ _ _ _ _ _ _ _ _ _ _ _ _ _ _ _ _ _ _ _ _ _ _ _ _ _ _ _ _ _ _ _ _ _ _ _ _ _ _ _ _ _ _ _ _ _ _ _ _ _ _ _ _ _ _ _ _ _ _ _ _ _ _ _ _ _ _ _ _ _ _ _ _ _ _ _ _ _ _ _ _ _ _ _ _ _ _ _ _ _ _ _ _ _ _ _ _ _ _ _ _ _ _ _ _ _ _ _ _ _ _ _ _ _ _ _ _ _ _ _ _ _ _ _ _ _ _ _ _ _ _ _ _ _ _ _ _ _ _ _ _ _ _ _ _ _ _ _ _ _ _ _ _ _ _ _ _ _ _ _ _ _ _ _ _ _ _ _ _ _ _ _ _ _ _ _ _ _ _ _ _ _ _ _ _ _ _ _ _ _ _ _ _ _ _ _ _ _ _ _ _ _ _ _ _ _ _ _ _ _ _ _ _ _ _ _ _ _ _ _ _ _ _ _ _ _ _ _ _ _ _ _ _ _ _ _ _ _ _ _ _ _ _ _ _ _ _ _ _ _ _ _ _ _ _ _ _ _ _ _ _ _ _ _ _ _ _ _ _ _ _ _ _ _ _ ?_
  intro x32 x33 x34 x35 x36 x37 x214 x215 x216 x217 x218 x219 x220 x221 x222 x223 x224 x225 x226 x227 x228 x229 x230 x231 x232 x233 x234 x235 x236 x237 x238 x239 x240 x241 x242 x243 x244 x245 x246 x247 x248 x249 x250 x251 x252 x253 x254 x255 x256 x257 x258 x259 x260 x261 x262 x263 x264 x265 x266 x267 x268 x269 x270 w9 hE
  clear hm8 d0 d1 lbw hti hti2 ht0 ht1 hm0 hm1 hM8
  obtain ⟨bb, hpo⟩ := HPO.out
  have hlts := fun h o e => run_lt (G := G) (xi := xi) (qpos := qpos) (qm := qm) hh0 hrt n1 h o e
  obtain ⟨hb79, hE⟩ := hE
  have hB79 : Below w7.heap.size w7 w9 := by rw [← HSB.out]; exact hb79
  have HAx := hid (HA7.out.keep hB79)
  have HOCx := hid (own_keep hB79 HOC7.out)
  have HLTS := hid hlts
  clear hb79 HA7 HOC7 HPO hlts hB8
  cases hr : run G xi qpos qm (rqOf T' M') (notGone G (hsTo T M n0) n0) n1 with
  | none =>
    rw [hr] at hE hpo
    simp only [LetPost] at hE hpo
    subst hE
    subst hpo
    clear hr HLTS hB79
    have hr3 := HAx.out.r3
    have hfr : w9.cell? ⟨R, 5, none⟩ = some (.pointer (some ⟨A, 0, none⟩)) := by rw [HEA.out]; exact HAx.out.store.front
    have hr6 : w9.cell? ⟨R, 6, none⟩ = some (.pointer (some ⟨B, 0, none⟩)) := by rw [HEB.out]; exact HAx.out.r6
    have hwt : w9.cell? ⟨X, 4, none⟩ = some (.pointer (some ⟨Q0, 0, none⟩)) := by rw [HEX.out, HEQ.out]; exact HAx.out.store.wait
    have hna : w9.cell? ⟨NB, 0, none⟩ = some (.pointer (some ⟨A, 0, none⟩)) := by rw [HEA.out]; exact HAx.out.nodes 0 h1
    have hnl : w9.cell? ⟨NB, n1 - 1, none⟩ = some (.pointer (some ⟨B, 0, none⟩)) := by rw [HEB.out]; exact HAx.out.nodes (n1 - 1) (by omega)
    have hbA : IsBlk w9 A := by rw [HEA.out]; exact HAx.out.store.isN (j := 0) h1
    have hbB : IsBlk w9 B := by rw [HEB.out]; exact HAx.out.store.isN (j := n1 - 1) (by omega)
    have hbQ : IsBlk w9 Q0 := by rw [HEQ.out]; exact HAx.out.store.isN (j := qpos) hq
    have qA := fun d => neq26 (w9.drewN d) A A hbA hbA
    have qB := fun d => neq26 (w9.drewN d) B B hbB hbB
    have qQ := fun d => neq26 (w9.drewN d) Q0 Q0 hbQ hbQ
    simp only [decide_true, Bool.not_true] at qA qB qQ
    have heq := fun d => equal_any W5.heap.size (R + 1) n0 Hc Hv (tb (gb + 2) (hsTo T M n0)) (w9.drewN d) (own_keep (below_drewN (Below.refl _ _) d) HOCx.out) (own_keep (below_drewN (Below.refl _ _) d) HAx.out.own) (by omega)
    have j1 : IntKind.i64.wrap ((n1 : Int) - 1) = (n1 : Int) - 1 := by rw [IntKind.wrap_i64]; omega
    have j2 : ((n1 : Int) - 1).toNat = n1 - 1 := by omega
    have j3 : (0 : Int) ≤ (n1 : Int) - 1 := by omega
    have j4 : (n1 : Int) - 1 < (n1 : Int) := by omega
    have j7 : (0 : Int) < (n1 : Int) := by omega
    clear hbA hbB hbQ
    go_wp2_with fail
    go_quiet ((go_at_call 13; exact Calls.quiet_of (heq _)))
    obtain ⟨W11, hW11⟩ : ∃ W11, W11 = w9.drewN nq := ⟨_, rfl⟩
    rw [← hW11]
    have HA11 := hid (HAx.out.keep (wx := W11) (by rw [hW11]; exact below_drewN (Below.refl _ _) nq))
    clear hW11 heq qA qB qQ hr3 hfr hr6 hwt hna hnl HAx HOCx
    go_wp2
    have hbw11 : Below w.heap.size w W11 := by rw [← HGB.out]; exact HA11.out.below
    refine loop8 W11 gb R NB n1 _ (fun j => NB + 2 + 2 * j) _ T' M' (hc1.keep hbw11) (by omega) bT' bM' HA11.out.pool (fun i hi => HA11.out.store.isT hi) HA11.out.blkR (fun j hj => HA11.out.store.isN hj) HA11.out.nodes (fun j hj => HA11.out.store.n0 j hj) (fun j hj => HA11.out.store.n1 j hj) (fun j hj => HA11.out.store.n2 j hj) (fun j hj => HA11.out.store.n5 j hj) _ _ _ _ _ _ _ _ _ _ _ _ _ _ _ _ _ _ _ _ _ _ _ _ _ _ _ _ _ _ _ _ _ _ _ _ _ _ _ _ _ _ _ _ _ _ _ _ _ _ _ _ _ _ _ _ _ _ _ _ _ _ _ _ _ _ _ _ _ _ _ _ _ _ _ _ _ _ _ _ _ _ _ _ _ _ _ _ _ _ _ _ _ _ _ _ _ _ _ _ _ _ _ _ _ _ _ _ _ _ _ _ _ _ _ _ _ _ _ _ _ _ _ _ _ _ _ _ _ _ _ _ _ _ _ _ _ _ _ _ _ _ _ _ _ _ _ _ _ _ _ _ _ _ _ _ _ _ _ _ _ _ _ _ _ _ _ _ _ _ _ _ _ _ _ _ _ _ _ _ _ _ _ _ _ _ _ _ _ _ _ _ _ _ _ _ _ _ _ _ _ _ _ _ _ _ _ _ _ _ _ _ _ _ _ _ _ _ _ _ _ _ _ _ _ _ _ _ _ _ _ _ _ _ _ _ _ _ _ _ _ _ _ _ _ _ _ _ _ _ _ _ _ _ _ _ _ _ _ _ _ _ _ _ _ _ _ _ _ _ _ _ _ _ _ _ _ _ _ _ _ _ _ _ _ _ _ _ _ _ _ _ _ _ _ _ _ _ _ _ _ _ _ _ _ _ _ _ _ _ _ _ _ _ _ _ _ _ _ _ _ _ _ _ _ _ _ _ _ _ _ _ _ _ _ _ _ _ _ _ _ _ _ _ _ _ _ _ _ _ _ _ _ _ _ _ _ _ _ _ _ _ _ _ _ _ _ _ _ _ _ _ _ _ _ _ _ _ _ _ _ _ _ _ _ _ _ _ _ _ _ _ _ _ _ _ _ _ _ _ _ _ _ ?_
    intro z8 z39 z40 z41 z344 z345 z346 z347 z348 z349 z350 z351 z352 z353 z354 z355 z356 z357 z358 z359 z360 z361 z362 z363 z364 z365 z366 z367 z368 z369 z370 z371 z372 z373 z374 z375 z376 z377 z378 z379 z380 z381 z382 z383 z384 z385 z386 z387 z388 z389 z390 z391 z392 z393 z394 z395 z396 z397 z398 z399 z400 z401 z402 z403 z404 z405 z406 z407 w12 hb12
    have hfin : Below w.heap.size w w12 := hbw11.trans (hb12.mono hbw11.size)
    clear hb12 hbw11 HA11
    go_wp2
    go_ret
    exact ⟨rfl, hfin⟩
  | some pr =>
    obtain ⟨h, outs⟩ := pr
    rw [hr] at hE hpo
    simp only [LetPost] at hE hpo
    have hl := HLTS.out h outs hr
    obtain ⟨rfl, hown32⟩ := hE
    obtain ⟨hown24, hnil⟩ := hpo
    have hown24' := own_keep hB79 hown24
    clear hr HLTS hown24
    have hlen := hl.2.2.2
    by_cases ho : outs = []
    · have hgot := hnil ho
      subst ho
      subst hgot
      obtain ⟨aw, cw, ew⟩ : ∃ aw cw, x32 = .slice aw 0 cw := by
        rcases hown32.2 with ⟨e, _⟩ | ⟨g, cap, cur, e, _⟩
        · exact ⟨none, 0, e⟩
        · exact ⟨_, cap, e⟩
      subst ew
      have hq29 := fun W : World => eql29 W none 0 0
      clear hnil hB79
      go_wp2
      refine loop7 w9 gb _ _ 0 _ _ [] hown24' hown32 (fun t ht => absurd ht (by simp)) (by omega) HAx.out.pool (fun i hi => HAx.out.store.isT hi) _ _ _ _ _ _ _ _ _ _ _ _ _ _ _ _ _ _ _ _ _ _ _ _ _ _ _ _ _ _ _ _ _ _ _ _ _ _ _ _ _ _ _ _ _ _ _ _ _ _ _ _ _ _ _ _ _ _ _ _ _ _ _ _ _ _ _ _ _ _ _ _ _ _ _ _ _ _ _ _ _ _ _ _ _ _ _ _ _ _ _ _ _ _ _ _ _ _ _ _ _ _ _ _ _ _ _ _ _ _ _ _ _ _ _ _ _ _ _ _ _ _ _ _ _ _ _ _ _ _ _ _ _ _ _ _ _ _ _ _ _ _ _ _ _ _ _ _ _ _ _ _ _ _ _ _ _ _ _ _ _ _ _ _ _ _ _ _ _ _ _ _ _ _ _ _ _ _ _ _ _ _ _ _ _ _ _ _ _ _ _ _ _ _ _ _ _ _ _ _ _ _ _ _ _ _ _ _ _ _ _ _ _ _ _ _ _ _ _ _ _ _ _ _ _ _ _ _ _ _ _ _ _ _ _ _ _ _ _ _ _ _ _ _ _ _ _ _ _ _ _ _ _ _ _ _ _ _ _ _ _ _ _ _ _ _ _ _ _ _ _ _ _ _ _ _ _ _ _ _ _ _ _ _ _ _ _ _ _ _ _ _ _ _ _ _ _ _ _ _ _ _ _ _ _ _ _ _ _ _ _ _ _ _ _ _ _ _ _ _ _ _ _ _ _ _ _ _ _ _ _ _ _ _ _ _ _ _ _ _ _ _ _ _ _ _ _ _ _ _ _ _ _ _ _ _ _ _ _ _ _ _ _ _ _ _ _ _ _ _ _ _ _ _ _ _ _ _ _ _ _ _ _ _ _ _ _ _ _ _ _ _ _ _ _ _ _ _ _ _ _ _ _ ?_
      intro y8 y38 y289 y290 y291 y292 y293 y294 y295 y296 y297 y298 y299 y300 y301 y302 y303 w10 hd
      have hB10 : Below w9.heap.size w9 w10 := by obtain ⟨d, rfl⟩ := hd; exact below_drewN (Below.refl _ _) d
      have HA10 := hid (HAx.out.keep hB10)
      have HOC10 := hid (own_keep hB10 HOCx.out)
      clear HAx HOCx hd hB10 hown24' hown32
      have HAx := HA10
      have HOCx := HOC10
      clear HA10 HOC10
      have hr3 := HAx.out.r3
      have hfr : w10.cell? ⟨R, 5, none⟩ = some (.pointer (some ⟨A, 0, none⟩)) := by rw [HEA.out]; exact HAx.out.store.front
      have hr6 : w10.cell? ⟨R, 6, none⟩ = some (.pointer (some ⟨B, 0, none⟩)) := by rw [HEB.out]; exact HAx.out.r6
      have hwt : w10.cell? ⟨X, 4, none⟩ = some (.pointer (some ⟨Q0, 0, none⟩)) := by rw [HEX.out, HEQ.out]; exact HAx.out.store.wait
      have hna : w10.cell? ⟨NB, 0, none⟩ = some (.pointer (some ⟨A, 0, none⟩)) := by rw [HEA.out]; exact HAx.out.nodes 0 h1
      have hnl : w10.cell? ⟨NB, n1 - 1, none⟩ = some (.pointer (some ⟨B, 0, none⟩)) := by rw [HEB.out]; exact HAx.out.nodes (n1 - 1) (by omega)
      have hbA : IsBlk w10 A := by rw [HEA.out]; exact HAx.out.store.isN (j := 0) h1
      have hbB : IsBlk w10 B := by rw [HEB.out]; exact HAx.out.store.isN (j := n1 - 1) (by omega)
      have hbQ : IsBlk w10 Q0 := by rw [HEQ.out]; exact HAx.out.store.isN (j := qpos) hq
      have qA := fun d => neq26 (w10.drewN d) A A hbA hbA
      have qB := fun d => neq26 (w10.drewN d) B B hbB hbB
      have qQ := fun d => neq26 (w10.drewN d) Q0 Q0 hbQ hbQ
      simp only [decide_true, Bool.not_true] at qA qB qQ
      have heq := fun d => equal_any W5.heap.size (R + 1) n0 Hc Hv (tb (gb + 2) (hsTo T M n0)) (w10.drewN d) (own_keep (below_drewN (Below.refl _ _) d) HOCx.out) (own_keep (below_drewN (Below.refl _ _) d) HAx.out.own) (by omega)
      have j1 : IntKind.i64.wrap ((n1 : Int) - 1) = (n1 : Int) - 1 := by rw [IntKind.wrap_i64]; omega
      have j2 : ((n1 : Int) - 1).toNat = n1 - 1 := by omega
      have j3 : (0 : Int) ≤ (n1 : Int) - 1 := by omega
      have j4 : (n1 : Int) - 1 < (n1 : Int) := by omega
      have j7 : (0 : Int) < (n1 : Int) := by omega
      clear hbA hbB hbQ
      go_wp2_with fail
      go_quiet ((go_at_call 13; exact Calls.quiet_of (heq _)))
      obtain ⟨W11, hW11⟩ : ∃ W11, W11 = w10.drewN nq := ⟨_, rfl⟩
      rw [← hW11]
      have HA11 := hid (HAx.out.keep (wx := W11) (by rw [hW11]; exact below_drewN (Below.refl _ _) nq))
      clear hW11 heq qA qB qQ hr3 hfr hr6 hwt hna hnl HAx HOCx
      go_wp2
      have hbw11 : Below w.heap.size w W11 := by rw [← HGB.out]; exact HA11.out.below
      refine loop8 W11 gb R NB n1 _ (fun j => NB + 2 + 2 * j) _ T' M' (hc1.keep hbw11) (by omega) bT' bM' HA11.out.pool (fun i hi => HA11.out.store.isT hi) HA11.out.blkR (fun j hj => HA11.out.store.isN hj) HA11.out.nodes (fun j hj => HA11.out.store.n0 j hj) (fun j hj => HA11.out.store.n1 j hj) (fun j hj => HA11.out.store.n2 j hj) (fun j hj => HA11.out.store.n5 j hj) _ _ _ _ _ _ _ _ _ _ _ _ _ _ _ _ _ _ _ _ _ _ _ _ _ _ _ _ _ _ _ _ _ _ _ _ _ _ _ _ _ _ _ _ _ _ _ _ _ _ _ _ _ _ _ _ _ _ _ _ _ _ _ _ _ _ _ _ _ _ _ _ _ _ _ _ _ _ _ _ _ _ _ _ _ _ _ _ _ _ _ _ _ _ _ _ _ _ _ _ _ _ _ _ _ _ _ _ _ _ _ _ _ _ _ _ _ _ _ _ _ _ _ _ _ _ _ _ _ _ _ _ _ _ _ _ _ _ _ _ _ _ _ _ _ _ _ _ _ _ _ _ _ _ _ _ _ _ _ _ _ _ _ _ _ _ _ _ _ _ _ _ _ _ _ _ _ _ _ _ _ _ _ _ _ _ _ _ _ _ _ _ _ _ _ _ _ _ _ _ _ _ _ _ _ _ _ _ _ _ _ _ _ _ _ _ _ _ _ _ _ _ _ _ _ _ _ _ _ _ _ _ _ _ _ _ _ _ _ _ _ _ _ _ _ _ _ _ _ _ _ _ _ _ _ _ _ _ _ _ _ _ _ _ _ _ _ _ _ _ _ _ _ _ _ _ _ _ _ _ _ _ _ _ _ _ _ _ _ _ _ _ _ _ _ _ _ _ _ _ _ _ _ _ _ _ _ _ _ _ _ _ _ _ _ _ _ _ _ _ _ _ _ _ _ _ _ _ _ _ _ _ _ _ _ _ _ _ _ _ _ _ _ _ _ _ _ _ _ _ _ _ _ _ _ _ _ _ _ _ _ _ _ _ _ _ _ _ _ _ _ _ _ _ _ _ _ _ _ _ _ _ _ _ _ _ _ _ _ _ _ _ _ _ _ _ _ _ _ _ _ _ _ ?_
      intro z8 z39 z40 z41 z344 z345 z346 z347 z348 z349 z350 z351 z352 z353 z354 z355 z356 z357 z358 z359 z360 z361 z362 z363 z364 z365 z366 z367 z368 z369 z370 z371 z372 z373 z374 z375 z376 z377 z378 z379 z380 z381 z382 z383 z384 z385 z386 z387 z388 z389 z390 z391 z392 z393 z394 z395 z396 z397 z398 z399 z400 z401 z402 z403 z404 z405 z406 z407 w12 hb12
      have hfin : Below w.heap.size w w12 := hbw11.trans (hb12.mono hbw11.size)
      clear hb12 hbw11 HA11
      go_wp2
      go_ret
      exact ⟨rfl, hfin⟩
    · obtain ⟨m, hmm⟩ : ∃ m, m = outs.length := ⟨_, rfl⟩
      have hm0 : 0 < m := by rw [hmm]; exact List.length_pos_iff.2 ho
      rw [← hmm] at hown32 hown24' hlen
      obtain ⟨g1, cap1, rfl⟩ : ∃ g cap, got = .slice (some ⟨g, 0, none⟩) m cap := by
        rcases hown24'.2 with ⟨_, e⟩ | ⟨g, cap, cur, e, _⟩
        · omega
        · exact ⟨g, cap, e⟩
      obtain ⟨g2, cap2, rfl⟩ : ∃ g cap, x32 = .slice (some ⟨g, 0, none⟩) m cap := by
        rcases hown32.2 with ⟨_, e⟩ | ⟨g, cap, cur, e, _⟩
        · omega
        · exact ⟨g, cap, e⟩
      have hq29 := fun W : World => eql29 W (some ⟨g1, 0, none⟩) m cap1
      have hm1 : ((m : Int) == 0) = false := by simp; omega
      have HLL := hid hl
      clear hnil hB79 ho hmm hl
      go_wp2
      refine loop7 w9 gb _ _ m _ _ outs hown24' hown32 HLL.out.2.1 (by omega) HAx.out.pool (fun i hi => HAx.out.store.isT hi) _ _ _ _ _ _ _ _ _ _ _ _ _ _ _ _ _ _ _ _ _ _ _ _ _ _ _ _ _ _ _ _ _ _ _ _ _ _ _ _ _ _ _ _ _ _ _ _ _ _ _ _ _ _ _ _ _ _ _ _ _ _ _ _ _ _ _ _ _ _ _ _ _ _ _ _ _ _ _ _ _ _ _ _ _ _ _ _ _ _ _ _ _ _ _ _ _ _ _ _ _ _ _ _ _ _ _ _ _ _ _ _ _ _ _ _ _ _ _ _ _ _ _ _ _ _ _ _ _ _ _ _ _ _ _ _ _ _ _ _ _ _ _ _ _ _ _ _ _ _ _ _ _ _ _ _ _ _ _ _ _ _ _ _ _ _ _ _ _ _ _ _ _ _ _ _ _ _ _ _ _ _ _ _ _ _ _ _ _ _ _ _ _ _ _ _ _ _ _ _ _ _ _ _ _ _ _ _ _ _ _ _ _ _ _ _ _ _ _ _ _ _ _ _ _ _ _ _ _ _ _ _ _ _ _ _ _ _ _ _ _ _ _ _ _ _ _ _ _ _ _ _ _ _ _ _ _ _ _ _ _ _ _ _ _ _ _ _ _ _ _ _ _ _ _ _ _ _ _ _ _ _ _ _ _ _ _ _ _ _ _ _ _ _ _ _ _ _ _ _ _ _ _ _ _ _ _ _ _ _ _ _ _ _ _ _ _ _ _ _ _ _ _ _ _ _ _ _ _ _ _ _ _ _ _ _ _ _ _ _ _ _ _ _ _ _ _ _ _ _ _ _ _ _ _ _ _ _ _ _ _ _ _ _ _ _ _ _ _ _ _ _ _ _ _ _ _ _ _ _ _ _ _ _ _ _ _ _ _ _ _ _ _ _ _ _ _ _ _ _ _ _ _ ?_
      intro y8 y38 y289 y290 y291 y292 y293 y294 y295 y296 y297 y298 y299 y300 y301 y302 y303 w10 hd
      have hB10 : Below w9.heap.size w9 w10 := by obtain ⟨d, rfl⟩ := hd; exact below_drewN (Below.refl _ _) d
      have HA10 := hid (HAx.out.keep hB10)
      have HOC10 := hid (own_keep hB10 HOCx.out)
      clear HAx HOCx hd hB10 hown24' hown32
      have HAx := HA10
      have HOCx := HOC10
      clear HA10 HOC10
      have hr3 := HAx.out.r3
      have hfr : w10.cell? ⟨R, 5, none⟩ = some (.pointer (some ⟨A, 0, none⟩)) := by rw [HEA.out]; exact HAx.out.store.front
      have hr6 : w10.cell? ⟨R, 6, none⟩ = some (.pointer (some ⟨B, 0, none⟩)) := by rw [HEB.out]; exact HAx.out.r6
      have hwt : w10.cell? ⟨X, 4, none⟩ = some (.pointer (some ⟨Q0, 0, none⟩)) := by rw [HEX.out, HEQ.out]; exact HAx.out.store.wait
      have hna : w10.cell? ⟨NB, 0, none⟩ = some (.pointer (some ⟨A, 0, none⟩)) := by rw [HEA.out]; exact HAx.out.nodes 0 h1
      have hnl : w10.cell? ⟨NB, n1 - 1, none⟩ = some (.pointer (some ⟨B, 0, none⟩)) := by rw [HEB.out]; exact HAx.out.nodes (n1 - 1) (by omega)
      have hbA : IsBlk w10 A := by rw [HEA.out]; exact HAx.out.store.isN (j := 0) h1
      have hbB : IsBlk w10 B := by rw [HEB.out]; exact HAx.out.store.isN (j := n1 - 1) (by omega)
      have hbQ : IsBlk w10 Q0 := by rw [HEQ.out]; exact HAx.out.store.isN (j := qpos) hq
      have qA := fun d => neq26 (w10.drewN d) A A hbA hbA
      have qB := fun d => neq26 (w10.drewN d) B B hbB hbB
      have qQ := fun d => neq26 (w10.drewN d) Q0 Q0 hbQ hbQ
      simp only [decide_true, Bool.not_true] at qA qB qQ
      have heq := fun d => equal_any W5.heap.size (R + 1) n0 Hc Hv (tb (gb + 2) (hsTo T M n0)) (w10.drewN d) (own_keep (below_drewN (Below.refl _ _) d) HOCx.out) (own_keep (below_drewN (Below.refl _ _) d) HAx.out.own) (by omega)
      have j1 : IntKind.i64.wrap ((n1 : Int) - 1) = (n1 : Int) - 1 := by rw [IntKind.wrap_i64]; omega
      have j2 : ((n1 : Int) - 1).toNat = n1 - 1 := by omega
      have j3 : (0 : Int) ≤ (n1 : Int) - 1 := by omega
      have j4 : (n1 : Int) - 1 < (n1 : Int) := by omega
      have j7 : (0 : Int) < (n1 : Int) := by omega
      clear hbA hbB hbQ
      go_wp2_with fail
      go_quiet ((go_at_call 13; exact Calls.quiet_of (heq _)))
      obtain ⟨W11, hW11⟩ : ∃ W11, W11 = w10.drewN nq := ⟨_, rfl⟩
      rw [← hW11]
      have HA11 := hid (HAx.out.keep (wx := W11) (by rw [hW11]; exact below_drewN (Below.refl _ _) nq))
      clear hW11 heq qA qB qQ hr3 hfr hr6 hwt hna hnl HAx HOCx
      go_wp2
      have hbw11 : Below w.heap.size w W11 := by rw [← HGB.out]; exact HA11.out.below
      refine loop8 W11 gb R NB n1 _ (fun j => NB + 2 + 2 * j) _ T' M' (hc1.keep hbw11) (by omega) bT' bM' HA11.out.pool (fun i hi => HA11.out.store.isT hi) HA11.out.blkR (fun j hj => HA11.out.store.isN hj) HA11.out.nodes (fun j hj => HA11.out.store.n0 j hj) (fun j hj => HA11.out.store.n1 j hj) (fun j hj => HA11.out.store.n2 j hj) (fun j hj => HA11.out.store.n5 j hj) _ _ _ _ _ _ _ _ _ _ _ _ _ _ _ _ _ _ _ _ _ _ _ _ _ _ _ _ _ _ _ _ _ _ _ _ _ _ _ _ _ _ _ _ _ _ _ _ _ _ _ _ _ _ _ _ _ _ _ _ _ _ _ _ _ _ _ _ _ _ _ _ _ _ _ _ _ _ _ _ _ _ _ _ _ _ _ _ _ _ _ _ _ _ _ _ _ _ _ _ _ _ _ _ _ _ _ _ _ _ _ _ _ _ _ _ _ _ _ _ _ _ _ _ _ _ _ _ _ _ _ _ _ _ _ _ _ _ _ _ _ _ _ _ _ _ _ _ _ _ _ _ _ _ _ _ _ _ _ _ _ _ _ _ _ _ _ _ _ _ _ _ _ _ _ _ _ _ _ _ _ _ _ _ _ _ _ _ _ _ _ _ _ _ _ _ _ _ _ _ _ _ _ _ _ _ _ _ _ _ _ _ _ _ _ _ _ _ _ _ _ _ _ _ _ _ _ _ _ _ _ _ _ _ _ _ _ _ _ _ _ _ _ _ _ _ _ _ _ _ _ _ _ _ _ _ _ _ _ _ _ _ _ _ _ _ _ _ _ _ _ _ _ _ _ _ _ _ _ _ _ _ _ _ _ _ _ _ _ _ _ _ _ _ _ _ _ _ _ _ _ _ _ _ _ _ _ _ _ _ _ _ _ _ _ _ _ _ _ _ _ _ _ _ _ _ _ _ _ _ _ _ _ _ _ _ _ _ _ _ _ _ _ _ _ _ _ _ _ _ _ _ _ _ _ _ _ _ _ _ _ _ _ _ _ _ _ _ _ _ _ _ _ _ _ _ _ _ _ _ _ _ _ _ _ _ _ _ _ _ _ _ _ _ _ _ _ _ _ _ _ _ _ ?_
      intro z8 z39 z40 z41 z344 z345 z346 z347 z348 z349 z350 z351 z352 z353 z354 z355 z356 z357 z358 z359 z360 z361 z362 z363 z364 z365 z366 z367 z368 z369 z370 z371 z372 z373 z374 z375 z376 z377 z378 z379 z380 z381 z382 z383 z384 z385 z386 z387 z388 z389 z390 z391 z392 z393 z394 z395 z396 z397 z398 z399 z400 z401 z402 z403 z404 z405 z406 z407 w12 hb12
      have hfin : Below w.heap.size w w12 := hbw11.trans (hb12.mono hbw11.size)
      clear hb12 hbw11 HA11
      go_wp2
      go_ret
      exact ⟨rfl, hfin⟩

end Go.Proofs.Ybulkecuo.B
