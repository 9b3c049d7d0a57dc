import Derived.Test.YbulkecuoCRegion
import Derived.Test.YbulkecuoCStage6
import Derived.OpenShut
import Derived.Deep.DeepCutAuto
namespace Go.Proofs.Ybulkecuo.C
open Go.RowKit
attribute [local go_sem ↓] to125 to165

set_option maxRecDepth 100000 in
set_option maxHeartbeats 2000000 in
theorem main_walk (ex vst : Int) (vch : Bool) (a3 a4 a5 : Option Addr) (len3 cap3 len4 cap4 len5 cap5 : Nat) (z3 z4 z5 : Nat → Int) (w : World)
    (h3 : len3 ≤ 1024) (h4 : len4 ≤ 65536) (h5 : len5 ≤ 65536) (c3 : Came .u8 w a3 len3 z3) (c4 : Came .u16 w a4 len4 z4) (c5 : Came .u8 w a5 len5 z5)
    (b3 : ∀ i, 0 ≤ z3 i ∧ z3 i ≤ 255) (b4 : ∀ i, 0 ≤ z4 i ∧ z4 i ≤ 65535) (b5 : ∀ i, 0 ≤ z5 i ∧ z5 i ≤ 255) (bv : 0 ≤ vst ∧ vst ≤ 255) (M : Nat) (hM : (len3 : Int) + 1 = (M : Int)) :
    Calls Yba.prog 5 #[.int .i64 ex, .int .u8 vst, .bool vch, .slice a3 len3 cap3, .slice a4 len4 cap4, .slice a5 len5 cap5] w fun e w' => e = .returned (.bool true) ∧ Below w.heap.size w w' := by
  have hMb : M ≤ 1025 := by omega
  have m90 := run_make_row' (P := Yba.prog) 89 90 (.int .u8 0) 1 Yba.underlying89 info90 rfl .i64 .i64 M (by omega) (by omega)
  have m47 := run_make_row' (P := Yba.prog) 29 47 (.pointer none) 8 Yba.underlying29 info47 rfl .i64 .i64 M (by omega) (by omega)
  have m93 := run_make_row' (P := Yba.prog) 91 93 (.pointer none) 8 Yba.underlying91 info93 rfl .i64 .i64 M (by omega) (by omega)
  have m126 := run_make_row' (P := Yba.prog) 92 126 (.slice none 0 0) 24 Yba.underlying92 info126 rfl .i64 .i64 M (by omega) (by omega)
  have m4 := run_make_row' (P := Yba.prog) 126 4 (.bool false) 1 Yba.underlying126 info4 rfl .i64 .i64 M (by omega) (by omega)
  have m3 := run_make_row' (P := Yba.prog) 30 3 (.int .i64 0) 8 Yba.underlying30 info3 rfl .i64 .i64 len5 (by omega) (by omega)
  have m132 := make132 len5 (by omega)
  go_enter Yba.func5, Yba.ntmps5
  go_wp2
  go_loopw [15] (fun i wr => ∃ k : Nat, k ≤ len3 ∧ i = .int .i64 k ∧ wr.rowIs w.heap.size 90 M (fun i => .int .u8 (stTo z3 k i)) ∧ wr.heap.size = w.heap.size + 1 ∧ Below w.heap.size w wr) (fun i _ => len3 - (intOf i).toNat)
  case atStart =>
    refine ⟨0, Nat.zero_le _, rfl, ?_, by simp, (Below.refl _ _).alloc (Nat.le_refl _) _⟩
    exact (World.rowIs_made w (.int .u8 0) M 90).congr fun i _ => by simp [stTo]
  case round =>
    obtain ⟨k, hk, rfl, hrow, hsz, hbel⟩ := hrel
    by_cases hlt : k < len3
    · obtain ⟨b, off, ha, hcell⟩ := c3 k hlt
      subst ha
      have hck := hcell k hlt
      have hbl := lt_of_cell hck
      have hc := (hbel.cell (p := ⟨b, off + k, none⟩) hbl).trans hck
      have hbz := b3 k
      have hkM : k < M := by omega
      have hrc := hrow.cell hkM
      have hrf := hrow.frozen k
      have hR := st_step (k := k) hrow
      obtain ⟨zk, hzk⟩ : ∃ zk, zk = z3 k := ⟨_, rfl⟩
      rw [← hzk] at hc hbz hR
      clear hcell hck hzk
      go_wp2
      go_roundw
      case rel => exact ⟨k + 1, by omega, by go_num, hR, by simpa using hsz, hbel.setCell (Nat.le_refl _) _⟩
      case measure => simp [intOf]; omega
    · have hk3 : len3 = k := by omega
      subst hk3
      clear hlt hk
      go_wp2
      obtain ⟨N1, e1⟩ : ∃ N1, N1 = w.heap.size + 1 := ⟨_, rfl⟩
      obtain ⟨N2, e2⟩ : ∃ N2, N2 = N1 + 1 := ⟨_, rfl⟩
      obtain ⟨N3, e3⟩ : ∃ N3, N3 = N2 + 1 := ⟨_, rfl⟩
      rw [← e1, ← e2, ← e3]
      have L1 : w.heap.size < N1 := by omega
      have L2 : N1 < N2 := by omega
      have L3 : N2 < N3 := by omega
      have HE : Hid (wr.heap.size = N1 ∧ N2 = N1 + 1 ∧ N3 = N2 + 1) := ⟨by omega, e2, e3⟩
      clear e1 e2 e3
      go_loopw [19] (fun i wr => ∃ k : Nat, k ≤ M ∧ i = .int .i64 k ∧ Stage2 w wr N1 N2 N3 (N3 + 1) M k (stTo z3 len3)) (fun i _ => M - (intOf i).toNat)
      case atStart => exact ⟨0, Nat.zero_le _, rfl, st2_zero hrow hbel HE.out.1 HE.out.2.1 HE.out.2.2⟩
      case round =>
        clear hrow hbel hsz HE
        obtain ⟨k2, hk2, rfl, hS⟩ := hrel
        by_cases hlt2 : k2 < M
        · have hb125 := bd125
          have s1 := hS.st.cell hlt2
          have s2 := hS.tx.cell hlt2
          have s3 := hS.lv.cell hlt2
          have s4 := hS.aj.cell hlt2
          have f2 := hS.tx.frozen k2
          have f3 := hS.lv.frozen k2
          have f4 := hS.aj.frozen k2
          simp only [Nat.lt_irrefl, if_false] at s2 s3 s4
          have g0 : N3 < wr.heap.size := by have := hS.size; omega
          have g1 : N2 < wr.heap.size := by omega
          have g2 : N1 < wr.heap.size := by omega
          have g3 : w.heap.size < wr.heap.size := by omega
          have g4 : N3 < wr.heap.size + 1 := by omega
          have g5 : N2 < wr.heap.size + 1 := by omega
          have g6 : N1 < wr.heap.size + 1 := by omega
          have g7 : w.heap.size < wr.heap.size + 1 := by omega
          have g8 : N3 < wr.heap.size + 1 + 1 := by omega
          have i0 : (0 : Int) ≤ (k2 : Int) := by omega
          have i1 : (k2 : Int) < (M : Int) := by omega
          go_wp2
          obtain ⟨W1, hW1⟩ : ∃ W1, W1 = (wr.setCell ⟨N1, k2, none⟩ (.pointer (some ⟨wr.heap.size, 0, none⟩))).alloc (.cells #[.string ⟨#[]⟩, .int .i64 0, .slice none 0 0, .int .i64 0, .pointer none, .pointer none, .nilIface, .bool false, .slice none 0 0, .slice none 0 0, .slice none 0 0, .slice none 0 0, .int .u64 0] 33) := ⟨_, rfl⟩
          rw [← hW1]
          obtain ⟨hsz1, q1, q2, q3, q4, q5, q6⟩ := st2_w1 hS L1 L2 L3 hlt2 W1 hW1
          have hS' := st2_step hS L1 L2 L3 (Nat.lt_succ_self _) W1 hW1
          unfold P at q1
          have z0 : N3 < W1.heap.size := by omega
          have z1 : N2 < W1.heap.size := by omega
          have z2 : N1 < W1.heap.size := by omega
          have z3' : w.heap.size < W1.heap.size := by omega
          have z4' : N3 < W1.heap.size + 1 := by omega
          have z5' : N2 < W1.heap.size + 1 := by omega
          have n3 : ¬ N2 = N1 := by omega
          have n4 : ¬ N2 = w.heap.size := by omega
          have n5 : ¬ N1 = W1.heap.size := by omega
          have n6 : ¬ w.heap.size = W1.heap.size := by omega
          have n7 : ¬ N2 = W1.heap.size := by omega
          have n1 := World.new_ne W1 _ q1
          have n2 := World.new_ne W1 _ q2
          have HS : Hid (Stage2 w ((((W1.setCell ⟨N2, k2, none⟩ (.pointer (some ⟨W1.heap.size, 0, none⟩))).setCell ⟨N3, k2, none⟩ (.slice (some ⟨W1.heap.size + 1, 0, none⟩) M M)).alloc (.cells (life0 wr.heap.size (stTo z3 len3 k2)) 125)).alloc (.cells (madeCells #[.bool false] M) 4)).drew N1 N2 N3 (N3 + 1) M (k2 + 1) (stTo z3 len3)) := hS'
          clear hW1 hsz1 hS hS'
          go_region_held3 (fun w' => w'.cell? ⟨N1, k2, none⟩ = some (.pointer (some ⟨wr.heap.size, 0, none⟩)) ∧ w'.cell? ⟨w.heap.size, k2, none⟩ = some (.int .u8 (stTo z3 len3 k2))) (go_keep) (fail)
          all_goals go_wp2
          go_roundw
          case rel => exact ⟨k2 + 1, by omega, by go_num, HS.out⟩
          case measure => simp [intOf]; omega
        · have hk3 : M = k2 := by omega
          subst hk3
          clear hlt2 hk2
          have hS3 := st3_zero hS
          clear hS
          go_wp2
          go_loopw [102] (fun i wr => ∃ k : Nat, k ≤ len4 ∧ i = .int .i64 k ∧ ∃ Bv L, Stage3 w wr N1 N2 N3 (N3 + 1) M k (stTo z3 len3) Bv L) (fun i _ => len4 - (intOf i).toNat)
          case atStart => exact ⟨0, Nat.zero_le _, rfl, _, _, hS3⟩
          case round =>
            clear hS3
            obtain ⟨k, hk, rfl, Bv, L, hS⟩ := hrel
            by_cases hlt : k < len4
            · obtain ⟨b, off, ha, hcell⟩ := c4 k hlt
              subst ha
              have hck := hcell k hlt
              have hbl := lt_of_cell hck
              have hc := (hS.below.cell (p := ⟨b, off + k, none⟩) hbl).trans hck
              have hbz := b4 k
              obtain ⟨zk, hzk⟩ : ∃ zk, zk = z4 k := ⟨_, rfl⟩
              rw [← hzk] at hc hbz
              clear hcell hck hzk
              have hdb := bounds_u16 (wf_bits .and .u16 zk 255)
              obtain ⟨d, hd⟩ : ∃ d, bits .and .u16 zk 255 = d := ⟨_, rfl⟩
              rw [hd] at hdb
              obtain ⟨a, haq⟩ : ∃ a : Nat, zk / 256 % (M : Int) = (a : Int) := ⟨(zk / 256 % (M : Int)).toNat, (Int.toNat_of_nonneg (Int.emod_nonneg _ (by omega))).symm⟩
              obtain ⟨e, heq⟩ : ∃ e : Nat, d % (M : Int) = (e : Int) := ⟨(d % (M : Int)).toNat, (Int.toNat_of_nonneg (Int.emod_nonneg _ (by omega))).symm⟩
              have haM : a < M := by have := Int.emod_lt_of_pos (zk / 256) (show (0 : Int) < M by omega); omega
              have heM : e < M := by have := Int.emod_lt_of_pos d (show (0 : Int) < M by omega); omega
              go_wp2
              rw [haq, heq]
              clear hd haq heq hdb hbz hc
              have ia0 : (0 : Int) ≤ (a : Int) := by omega
              have ia1 : (a : Int) < (M : Int) := by omega
              have ie0 : (0 : Int) ≤ (e : Int) := by omega
              have ie1 : (e : Int) < (M : Int) := by omega
              refine region23 w wr N1 N2 N3 M k a e _ _ (stTo z3 len3) Bv L hS L2 L3 haM heM (by omega) rfl rfl _ _ _ _ _ _ _ _ _ _ _ _ _ _ _ _ _ _ _ _ _ _ _ _ _ _ _ _ _ _ _ _ _ _ _ _ _ _ _ _ _ _ _ _ _ _ _ _ _ _ _ _ _ _ _ _ _ _ _ _ _ _ _ _ _ _ _ _ _ _ _ _ _ _ _ _ _ _ _ _ _ _ _ _ _ _ _ _ _ _ _ _ _ _ _ _ _ _ _ _ _ _ _ _ _ _ _ _ _ _ _ _ _ _ _ _ _ _ _ _ _ _ _ _ _ _ _ _ _ _ _ _ _ _ _ _ _ _ _ _ _ _ _ _ _ _ _ _ _ _ _ _ _ _ _ _ _ _ _ _ _ _ _ _ _ _ _ _ _ _ _ _ _ _ _ _ _ _ _ _ _ _ _ _ _ _ _ _ _ _ _ _ _ _ _ _ _ _ _ _ _ _ _ _ _ _ _ _ _ _ _ _ _ _ _ _ _ _ _ _ _ _ _ _ _ _ _ _ _ _ _ _ _ _ _ _ _ _ _ _ _ _ _ _ _ _ _ _ _ _ _ _ _ _ _ _ _ _ _ _ _ _ _ _ _ _ _ _ _ _ _ _ _ _ _ _ _ _ _ _ _ _ _ _ _ _ _ _ ?_
              intro v116 v117 v118 v119 v120 v121 v122 v123 v124 v125 v126 v127 v128 v129 v130 v131 v132 v133 v134 w1 g cap hown1 hgrow hat
              have hR := st3_step hS L1 L2 L3 (Nat.lt_succ_self _) a e haM heM w1 g cap hown1 ⟨hgrow.os, hgrow.tape, hgrow.output, hgrow.size, hgrow.block⟩ hat
              obtain ⟨v', hv'⟩ : ∃ v', v' = Value.slice (some ⟨g, 0, none⟩) ((L a).length + 1) cap := ⟨_, rfl⟩
              rw [← hv'] at hR ⊢
              have hlow : ∀ x, x < N3 + 1 + 3 * M → w1.heap[x]? = wr.heap[x]? := fun x hx => by
                rw [hgrow.block x (by have := hS.size; show x < (wr.alloc _).heap.size; rw [Go.Deep.nblk_alloc]; omega) (fun e => by have := (hS.own a haM).lt x e.symm; omega)]
                exact Go.Deep.blk_alloc_lt _ _ _ (by have := hS.size; omega)
              have t1 := ((hS.aj.of_block (hlow N3 (by omega))).setOther (a := ⟨N3 + 1 + 3 * a, 8, none⟩) (by simp; omega) v').cell haM
              have t2 := ((hS.ads a haM).of_block (hlow _ (by omega))).setOther (a := ⟨N3 + 1 + 3 * a, 8, none⟩) (by simp; omega) v'
              have t3 := t2.cell heM
              have t4 := t2.frozen e
              obtain ⟨W2, hW2⟩ : ∃ W2, W2 = w1.setCell ⟨N3 + 1 + 3 * a, 8, none⟩ v' := ⟨_, rfl⟩
              rw [← hW2] at hR t1 t3 t4 ⊢
              clear t2 hW2 hv' hown1 hgrow hat hlow hS
              have HR := hid hR
              clear hR
              go_wp2
              go_roundw
              case rel => exact ⟨k + 1, by omega, by go_num, _, _, HR.out⟩
              case measure => simp [intOf]; omega
            · have hk4 : len4 = k := by omega
              subst hk4
              clear hlt hk
              go_wp2
              obtain ⟨w3, e3⟩ : ∃ w3, w3 = wr := ⟨_, rfl⟩
              subst e3
              obtain ⟨I, hI⟩ : ∃ I, I = w3.heap.size := ⟨_, rfl⟩
              obtain ⟨C, hC⟩ : ∃ C, C = I + 1 := ⟨_, rfl⟩
              have hSz := hS.size
              have L5 : N3 + 1 + 3 * M ≤ I := by omega
              have L6 : I < C := by omega
              have hS4 : Stage4 w3 ((w3.alloc (.cells (madeCells #[.int .i64 0] len5) 3)).alloc (.cells (madeCells #[.pointer none, .int .i64 0, .int .i64 0] (len5 * 3)) 132)) I C (N3 + 1) M len5 0 z5 := st4_zero hI hC
              rw [← hI, ← hC]
              have L7 : w3.heap.size ≤ I := by omega
              clear hI hC
              go_loopw [150] (fun i w4 => ∃ k : Nat, k ≤ len5 ∧ i = .int .i64 k ∧ Stage4 w3 w4 I C (N3 + 1) M len5 k z5) (fun i _ => len5 - (intOf i).toNat)
              case atStart => exact ⟨0, Nat.zero_le _, rfl, hS4⟩
              case round =>
                clear hS4
                obtain ⟨k, hk, rfl, hF⟩ := hrel
                by_cases hlt : k < len5
                · obtain ⟨b, off, ha, hcell⟩ := c5 k hlt
                  subst ha
                  have hck := hcell k hlt
                  have hbl := lt_of_cell hck
                  have hbz := b5 k
                  have hc := cell_keep hF.below ((hS.below.cell (p := ⟨b, off + k, none⟩) hbl).trans hck)
                  obtain ⟨q, hq⟩ : ∃ q : Nat, z5 k % (M : Int) = (q : Int) := ⟨(z5 k % (M : Int)).toNat, (Int.toNat_of_nonneg (Int.emod_nonneg _ (by omega))).symm⟩
                  have hqM : q < M := by have := Int.emod_lt_of_pos (z5 k) (show (0 : Int) < M by omega); omega
                  have hqx : q = ixOf z5 M k := by unfold ixOf; omega
                  obtain ⟨zk, hzk⟩ : ∃ zk, zk = z5 k := ⟨_, rfl⟩
                  rw [← hzk] at hc hbz hq
                  have l1 := cell_keep hF.below (hS.lv.cell hqM)
                  unfold P at l1
                  have i1 := hF.ix.cell hlt
                  have i2 := hF.ix.frozen k
                  have y0 := hF.cy.cell (i := k * 3) (by omega)
                  have y1 := hF.cy.cell (i := k * 3 + 1) (by omega)
                  have y2 := hF.cy.cell (i := k * 3 + 2) (by omega)
                  have y3 := hF.cy.frozen (k * 3)
                  have y4 := hF.cy.frozen (k * 3 + 1)
                  have y5 := hF.cy.frozen (k * 3 + 2)
                  have n1 : ¬ N2 = I := by omega
                  have n2 : ¬ I = C := by omega
                  have n3 : ¬ C = I := by omega
                  have n4 : ¬ N2 = C := by omega
                  have ik : (k : Int) < (len5 : Int) := by omega
                  have HX := hid (st4_step hF L7 L6 hqx)
                  clear hcell hck hzk hqx
                  go_wp2
                  go_roundw
                  case rel => exact ⟨k + 1, by omega, by go_num, HX.out⟩
                  case measure => simp [intOf]; omega
                · have hk5 : len5 = k := by omega
                  subst hk5
                  clear hlt hk c3 c4 c5
                  obtain ⟨w4, e4⟩ : ∃ w4, w4 = wr := ⟨_, rfl⟩
                  subst e4
                  have hb125 := bd125
                  have hb165 := bd165
                  go_upto_region 37 with fail
                  obtain ⟨W5, hW5⟩ : ∃ W5, W5 = ((w4.alloc (.cells #[.string ⟨#[]⟩, .int .i64 0, .slice none 0 0, .int .i64 0, .pointer none, .pointer none, .nilIface, .bool vch, .slice none 0 0, .slice none 0 0, .slice none 0 0, .slice none 0 0, .int .u64 0] 33)).alloc (.cells (life0 w4.heap.size (vst % 4)) 125)).alloc (.cells sites0 165) := ⟨_, rfl⟩
                  obtain ⟨hb5, hz5, x7, v1, v4, hblk⟩ := st5 w4 W5 vch (vst % 4) _ rfl hW5
                  rw [← hW5]
                  obtain ⟨X, eX⟩ : ∃ X, X = w4.heap.size := ⟨_, rfl⟩
                  obtain ⟨V, eV⟩ : ∃ V, V = X + 1 := ⟨_, rfl⟩
                  obtain ⟨Sb, eS⟩ : ∃ Sb, Sb = V + 1 := ⟨_, rfl⟩
                  obtain ⟨vs, evs⟩ : ∃ vs, vs = vst % 4 := ⟨_, rfl⟩
                  rw [← eX, ← eV, ← eS] at hz5 hblk
                  rw [← eX, ← eV] at v1 v4
                  rw [← eX] at x7
                  rw [← evs] at v4
                  rw [← eX, ← eV, ← eS, ← evs]
                  have bvs : 0 ≤ vs ∧ vs ≤ 3 := by omega
                  have K0 : w4.heap.size ≤ X := by omega
                  have K1 : X < V := by omega
                  have K2 : V < Sb := by omega
                  obtain ⟨Wt, eW⟩ : ∃ Wt, Wt = Sb + 1 := ⟨_, rfl⟩
                  rw [← eW] at hz5
                  have K3 : Sb < Wt := by omega
                  have H6 := hid (st6 (ex := ex) K0 K1 K2 K3 hb5 hz5 x7 v1 v4 hblk)
                  have p54 : W5.cell? ⟨Sb, 54, none⟩ = some (.int .i64 0) := cell_of_block hblk rfl
                  have p55 : W5.cell? ⟨Sb, 55, none⟩ = some (.int .i64 0) := cell_of_block hblk rfl
                  have p56 : W5.cell? ⟨Sb, 56, none⟩ = some (.int .i64 0) := cell_of_block hblk rfl
                  have p57 : W5.cell? ⟨Sb, 57, none⟩ = some (.int .i64 0) := cell_of_block hblk rfl
                  have p58 : W5.cell? ⟨Sb, 58, none⟩ = some (.int .i64 0) := cell_of_block hblk rfl
                  have p59 : W5.cell? ⟨Sb, 59, none⟩ = some (.int .i64 0) := cell_of_block hblk rfl
                  have p60 : W5.cell? ⟨Sb, 60, none⟩ = some (.int .i64 0) := cell_of_block hblk rfl
                  have p61 : W5.cell? ⟨Sb, 61, none⟩ = some (.int .i64 0) := cell_of_block hblk rfl
                  have p62 : W5.cell? ⟨Sb, 62, none⟩ = some (.int .i64 0) := cell_of_block hblk rfl
                  have p63 : W5.cell? ⟨Sb, 63, none⟩ = some (.int .i64 0) := cell_of_block hblk rfl
                  have p64 : W5.cell? ⟨Sb, 64, none⟩ = some (.int .i64 0) := cell_of_block hblk rfl
                  have q57 : W5.frozen? ⟨Sb, 57, none⟩ = false := frozen_of_block hblk
                  clear hW5 eX eV eS evs eW hblk hb125 hb165 hb5 x7 v1 v4
                  go_upto_region 39 with fail
                  obtain ⟨W6, hW6⟩ : ∃ W6, W6 = (W5.setCell ⟨Sb, 57, none⟩ (.int .i64 ex)).alloc (.cells #[.int .i64 0, .int .i64 0, .int .i64 0, .int .i64 ex, .int .i64 0, .int .i64 0, .int .i64 0, .int .i64 0, .int .i64 0, .int .i64 0, .int .i64 0] 163) := ⟨_, rfl⟩
                  have h6 := H6.out
                  rw [← hW6] at h6 ⊢
                  clear H6 hW6 p54 p55 p56 p57 p58 p59 p60 p61 p62 p63 p64 q57 hz5
                  have hKn := ((known_of_stage3 hS h4).keep hF.below).keep h6.old
                  have hTb := ((tables_of_stage3 hS).keep hF.below).keep h6.old
                  have hIx : ∀ j, j < len5 → W6.cell? ⟨I, j, none⟩ = some (.int .i64 (ixOf z5 M j : Int)) := fun j hj => by
                    have := cell_keep h6.old (hF.ix.cell hj)
                    simpa [hj] using this
                  have hCy : ∀ j, j < len5 → _ := fun j hj => cyc_cells hF j hj
                  have hMpos : 0 < M := by omega
                  have hmod := model_any W6 M N3 w.heap.size _ _ _ hTb L (fun _ _ _ _ => rfl) (by omega) I len5 (ixOf z5 M) h5 (fun j _ => ixOf_lt hMpos) hIx
                  obtain ⟨t, ht⟩ : ∃ t, t = standsTo (stTo z3 len3) L (ixOf z5 M) len5 len5 := ⟨_, rfl⟩
                  rw [← ht] at hmod
                  go_cut [206] from 194 to 206 (fun c wc => c = .bool (!(vs == 3 || vch || t)) ∧ wc = W6)
                  case first =>
                    have HM := hid hmod
                    clear hmod hKn hTb hIx hCy h6 hS hF ht
                    by_cases h3v : vs = 3
                    · subst h3v
                      go_wp2_with fail
                      go_meet
                      case rel => exact ⟨by simp, rfl⟩
                    · have h3b : (vs != 3) = true := by simpa using h3v
                      cases vch with
                      | true =>
                        go_wp2_with fail
                        go_meet
                        case rel => exact ⟨by simp, rfl⟩
                      | false =>
                        go_wp2_with fail
                        refine HM.out.mono ?_
                        rintro e w' ⟨rfl, rfl⟩
                        go_wp2_with fail
                        go_meet
                        case rel => exact ⟨by simp [h3v], rfl⟩
                  case rest =>
                    obtain ⟨rfl, rfl⟩ := hcut
                    obtain ⟨y, hy⟩ : ∃ y, y = wantv vs vch t ex := ⟨_, rfl⟩
                    go_upto_if 206 with fail
                    clear hmod hTb hIx
                    go_cut [] from 206 to 212 (fun wx => Stage6 w4 wx X V Sb Wt vs ex y vch)
                    case first =>
                      have hwt := h6.wt3
                      have hwf := h6.fw3
                      have HY := hid hy
                      have HT := hid ht
                      clear hy ht
                      cases hc : (vs == 3 || vch || t) with
                      | true =>
                        go_wp2_with fail
                        go_meet
                        case rel => rw [HY.out, show wantv vs vch t ex = ex from by simp [wantv, hc]]; exact h6
                      | false =>
                        go_wp2_with fail
                        go_meet
                        case rel => rw [HY.out, show wantv vs vch t ex = wrap64 (ex + 1) from by simp [wantv, hc]]; exact h6.want K0 K1 K2 K3 _
                    case rest =>
                      clear h6 hKn
                      have h6 := hcut
                      clear hcut
                      have hKn := ((known_of_stage3 hS h4).keep hF.below).keep h6.old
                      go_wp2_with fail
                      refine (watch_any Sb V X vs ex vch _ h6.v4 h6.v1 h6.x7 h6.sb57 h6.f57 M _ _ _ _ Bv L C len5 (ixOf z5 M) hKn (fun i j _ _ e => by simp at e; omega) h5 (fun j _ => ixOf_lt hMpos) ?_).mono ?_
                      · intro j hj
                        obtain ⟨y0, y1, y2⟩ := hCy j hj
                        exact ⟨cell_keep h6.old y0, cell_keep h6.old y1, cell_keep h6.old y2⟩
                      · rintro e w7 ⟨rfl, hkp, h57⟩
                        rw [← ht, ← hy] at h57
                        have h7 := h6.watch K0 K1 K2 K3 hkp h57
                        clear h6 hkp h57 hKn hy ht
                        have s54 := h7.sb 54 (by decide) (by decide) (by decide)
                        have s55 := h7.sb 55 (by decide) (by decide) (by decide)
                        have s56 := h7.sb 56 (by decide) (by decide) (by decide)
                        have s58 := h7.sb 58 (by decide) (by decide) (by decide)
                        have s59 := h7.sb 59 (by decide) (by decide) (by decide)
                        have s60 := h7.sb 60 (by decide) (by decide) (by decide)
                        have s61 := h7.sb 61 (by decide) (by decide) (by decide)
                        have s62 := h7.sb 62 (by decide) (by decide) (by decide)
                        have s63 := h7.sb 63 (by decide) (by decide) (by decide)
                        have s64 := h7.sb 64 (by decide) (by decide) (by decide)
                        have s57 := h7.sb57
                        have t0 := h7.wt 0 (by decide) (by decide)
                        have t1 := h7.wt 1 (by decide) (by decide)
                        have t2 := h7.wt 2 (by decide) (by decide)
                        have t4 := h7.wt 4 (by decide) (by decide)
                        have t5 := h7.wt 5 (by decide) (by decide)
                        have t6 := h7.wt 6 (by decide) (by decide)
                        have t7 := h7.wt 7 (by decide) (by decide)
                        have t8 := h7.wt 8 (by decide) (by decide)
                        have t9 := h7.wt 9 (by decide) (by decide)
                        have t10 := h7.wt 10 (by decide) (by decide)
                        have t3 := h7.wt3
                        have v4 := h7.v4
                        have v1 := h7.v1
                        have x7 := h7.x7
                        go_wp2_with fail
                        go_quiet (fail)
                        go_wp2
                        clear s54 s55 s56 s57 s58 s59 s60 s61 s62 s63 s64 t0 t1 t2 t3 t4 t5 t6 t7 t8 t9 t10 v4 v1 x7
                        have hIx : ∀ j, j < len5 → w7.cell? ⟨I, j, none⟩ = some (.int .i64 (ixOf z5 M j : Int)) := fun j hj => by
                          have := cell_keep h7.old (hF.ix.cell hj)
                          simpa [hj] using this
                        have hC7 : ∀ j, j < len5 → w7.cell? ⟨C, j * 3, none⟩ = some (.pointer (some ⟨N3 + 1 + 3 * ixOf z5 M j + 1, 0, none⟩)) := fun j hj => cell_keep h7.old (hCy j hj).1
                        have hLv : ∀ i, i < M → w7.cell? ⟨N2, i, none⟩ = some (.pointer (some ⟨N3 + 1 + 3 * i + 1, 0, none⟩)) := fun i hi => cell_keep h7.old (cell_keep hF.below (hS.lv.cell hi))
                        have hTx : ∀ i, i < M → w7.cell? ⟨N1, i, none⟩ = some (.pointer (some ⟨N3 + 1 + 3 * i, 0, none⟩)) := fun i hi => cell_keep h7.old (cell_keep hF.below (hS.tx.cell hi))
                        have hKn := ((known_of_stage3 hS h4).keep hF.below).keep h7.old
                        have hSt : ∀ i, i < M → w7.cell? ⟨w.heap.size, i, none⟩ = some (.int .u8 (stTo z3 len3 i)) := fun i hi => cell_keep h7.old (cell_keep hF.below (hS.st.cell hi))
                        have hBel : Below w.heap.size w w7 := by
                          have h1 := hS.below
                          have h2 : Below w.heap.size w3 w4 := hF.below.mono h1.size
                          have h3 : Below w.heap.size w4 w7 := h7.old.mono (by have := h2.size; have := h1.size; omega)
                          exact (h1.trans h2).trans h3
                        clear h7 hS hF hCy
                        go_loopw [242] (fun i wr => ∃ j : Nat, j ≤ len5 ∧ i = .int .i64 j ∧ ∃ nn, wr = w7.drewN nn) (fun i _ => len5 - (intOf i).toNat)
                        case atStart => exact ⟨0, Nat.zero_le _, rfl, _, rfl⟩
                        case round =>
                          obtain ⟨j, hj, rfl, nn, rfl⟩ := hrel
                          by_cases hlt : j < len5
                          · have a1 := hIx j hlt
                            have a2 := hC7 j hlt
                            have hxl := ixOf_lt (z := z5) (j := j) hMpos
                            have a3' := hLv _ hxl
                            obtain ⟨x, hx⟩ : ∃ x, x = ixOf z5 M j := ⟨_, rfl⟩
                            rw [← hx] at a1 a2 a3' hxl
                            have hq := neq_same93
                            have ix0 : (0 : Int) ≤ (x : Int) := by omega
                            have ix1 : (x : Int) < (M : Int) := by omega
                            have ij0 : (0 : Int) ≤ (j : Int) := by omega
                            have ij1 : (j : Int) < (len5 : Int) := by omega
                            clear hx hIx hC7 hLv hTx hKn hSt
                            go_wp2
                            go_quiet (fail)
                            go_wp2
                            go_roundw
                            case rel => exact ⟨j + 1, by omega, by go_num, _, rfl⟩
                            case measure => simp [intOf]; omega
                          · have hj5 : len5 = j := by omega
                            subst hj5
                            clear hlt hj
                            go_wp2
                            go_loopw [33] (fun i wr => ∃ j : Nat, j ≤ M ∧ i = .int .i64 j ∧ ∃ nn, wr = w7.drewN nn) (fun i _ => M - (intOf i).toNat)
                            case atStart => exact ⟨0, Nat.zero_le _, rfl, _, rfl⟩
                            case round =>
                              obtain ⟨j, hj, rfl, n2, rfl⟩ := hrel
                              by_cases hlt : j < M
                              · have a1 := hLv j hlt
                                have a2 := hTx j hlt
                                have a3' := hSt j hlt
                                have a4' := hKn.life4 j hlt
                                have a5' := hKn.life1 j hlt
                                have hq := neq_same47
                                have ij0 : (0 : Int) ≤ (j : Int) := by omega
                                have ij1 : (j : Int) < (M : Int) := by omega
                                obtain ⟨sj, hsj⟩ : ∃ sj, sj = stTo z3 len3 j := ⟨_, rfl⟩
                                rw [← hsj] at a3' a4'
                                obtain ⟨TJ, hTJ⟩ : ∃ TJ, TJ = N3 + 1 + 3 * j := ⟨_, rfl⟩
                                rw [← hTJ] at a1 a2 a4' a5'
                                clear hsj hTJ hIx hC7 hLv hTx hKn hSt
                                go_wp2
                                go_quiet (fail)
                                go_wp2
                                go_roundw
                                case rel => exact ⟨j + 1, by omega, by go_num, _, rfl⟩
                                case measure => simp [intOf]; omega
                              · go_wp2
                                go_ret
                                exact ⟨rfl, hBel.os, hBel.tape, hBel.output, hBel.size, hBel.block⟩

end Go.Proofs.Ybulkecuo.C
