import Derived.Test.YbulkectmFmtAProp3
namespace Go.Proofs.YbulkectmFmt.A
set_option linter.unusedVariables false
set_option linter.unusedSimpArgs false
open Go.RowKit Go.Deep

theorem made_row {w : World} {b n : Nat} {t : TypeId} {z : Value} (h : w.heap[b]? = some (.cells (madeCells #[z] n) t (0, 0))) : w.rowIs b t n (fun _ => z) := by
  have h1 := World.rowIs_made (w := w) z n t
  obtain ⟨c, hb, hs, hc⟩ := h1
  rw [blk_alloc_new] at hb
  cases hb
  exact ⟨_, h, hs, hc⟩

theorem sd_of_made {w wr : World} {fv fp SD RK n : Nat} (h : Made w wr w.heap.size fv fp SD RK n) : Sd w wr fv fp SD RK n (fun _ => false) :=
  ⟨h.below, h.hfv, h.hfp, made_row h.sd, made_row h.rk, h.lo⟩

theorem blk_lt {w : World} {b : Nat} {o : Obj} (h : w.heap[b]? = some o) : b < w.heap.size := (Array.getElem?_eq_some_iff.1 h).1

theorem fst_of_sd {w wr : World} {fv fp SD RK n : Nat} {seed : Nat → Bool} (h : Sd w wr fv fp SD RK n seed) :
    Fst w (wr.alloc (.cells #[.slice none 0 0] 27)) ⟨w.heap.size, fv, fp, SD, RK, wr.heap.size, n⟩ seed (fun _ => 0) [] (.slice none 0 0) := by
  have l1 := blk_lt h.hfv
  have l2 := blk_lt h.hfp
  have l3 := h.sd.lt
  have l4 := h.rk.lt
  obtain ⟨q1, q2, q3, q4⟩ := h.lo
  exact ⟨h.below.alloc h.below.size _, (blk_alloc_lt _ _ _ l1).trans h.hfv, (blk_alloc_lt _ _ _ l2).trans h.hfp, h.sd.alloc _, h.rk.alloc _, blk_alloc_new _ _, ⟨rfl, .inl ⟨rfl, rfl⟩⟩, ⟨q1, l1, q2, l2, q3, l3, q4, l4⟩⟩

theorem pst_of_fst {w wr : World} {C : PC} {seed : Nat → Bool} {D : GD} (hD : D.Ok) (hCn : C.n = D.n) {v : Value} (h : Fst w wr C seed (stK seed C.n).rank (stK seed C.n).order v) :
    Pst w (wr.alloc (.cells (madeCells #[.int .i64 0] C.n) 3)) C seed (st D seed 0) v wr.heap.size := by
  have hs : st D seed 0 = stK seed C.n := by rw [hCn]; rfl
  have ha := (FInv.stK hD seed C.n (by omega)).2.2
  rw [hs]
  have hov := h.ovlt
  refine ⟨h.keep ((Below.refl _ _).alloc (Nat.le_refl _) _), (made_row (blk_alloc_new _ _)).congr fun i _ => ?_, hov, fun e => ?_⟩
  · rw [ha i]; rfl
  · have := (h.own.lt _ e).2
    omega

set_option maxRecDepth 1000000 in
set_option maxHeartbeats 8000000 in
/-- propagate. -/
theorem propagate_any (w : World) (M : GM) (D : GD) (hD : D.Ok) (hG : Gr w M D) (a : Option Addr) (c : Nat) (ls : List Nat) (hrow : Row w (.slice a ls.length c) ls.length (ints ls)) (hlt : ∀ x ∈ ls, x < D.n) (hlen : ls.length ≤ 10000) :
    Calls Ybaf.prog 12 #[.pointer (some ⟨M.gp, 0, none⟩), .slice a ls.length c, .float .f64 4602678819172646912] w fun e w' => ∃ fp, e = .returned (.pointer (some ⟨fp, 0, none⟩)) ∧ Below w.heap.size w w' ∧ ∃ SD RK, Fir w' fp SD RK D.n (inB ls) (fin D (inB ls)).rank := by
  have hn3 := hD.hn
  have g1 := hG.c1
  have HG := hid hG
  have HD := hid hD
  clear hG hD
  go_enter Ybaf.func12, Ybaf.ntmps12
  go_wp2_with fail
  refine propReg1 w M.gp M.NB D.n hn3 g1 _ _ _ _ _ _ _ _ _ _ _ _ _ _ _ _ _ _ _ _ _ _ _ _ _ _ _ _ _ _ _ _ _ _ _ _ _ _ _ _ _ _ _ _ _ _ _ _ _ _ _ _ _ _ _ _ _ _ _ _ _ _ _ _ _ _ _ _ _ _ _ _ _ _ _ _ _ _ _ _ _ _ _ _ _ _ _ _ _ _ _ _ _ _ _ _ _ _ _ _ _ _ _ _ _ _ _ _ _ _ _ _ _ _ _ _ _ _ _ _ _ _ _ _ _ _ _ _ _ _ _ _ _ _ _ _ _ _ _ _ _ _ _ _ _ _ _ _ _ ?_
  intro fv fp SD RK c18 c19 c20 c21 c22 c23 c24 c25 c26 c27 c28 c29 c30 c31 c32 w1 hM
  have HM := hid hM
  clear hM
  go_wp2
  refine propLoop1 w w1 fv fp SD RK D.n (sd_of_made HM.out) a c ls (row_ints hrow) hlt hlen _ _ _ _ _ _ _ _ _ _ _ _ _ _ _ _ _ _ _ _ _ _ _ _ _ _ _ _ _ _ _ _ _ _ _ _ _ _ _ _ _ _ _ _ _ _ _ _ _ _ _ _ _ _ _ _ _ _ _ _ _ _ _ _ _ _ _ _ _ _ _ _ _ _ _ _ _ _ _ _ _ _ _ _ _ _ _ _ _ _ _ _ _ _ _ _ _ _ _ _ _ _ _ _ _ _ _ _ _ _ _ _ _ _ _ _ _ _ _ _ _ _ _ _ _ _ _ _ _ _ _ _ _ _ _ _ _ _ _ _ _ _ _ _ _ _ _ ?_
  intro a9 a35 a36 a37 a38 a39 a40 a41 a42 a43 a44 a45 w2 hS2
  have hF2 := fst_of_sd hS2
  have q1 : w2.cell? ⟨fv, 0, none⟩ = some (.pointer (some ⟨fp, 0, none⟩)) := by simp [World.cell?, hS2.hfv]
  have q2 : w2.cell? ⟨fp, 2, none⟩ = some (.slice (some ⟨RK, 0, none⟩) D.n D.n) := by simp [World.cell?, hS2.hfp]
  have q3 := lt_of_cell q1
  have q5 := lt_of_cell q2
  have HF2 := hid hF2
  clear hS2 HM hF2
  go_wp2
  obtain ⟨W2, hW2⟩ : ∃ W2, W2 = w2.alloc (.cells #[.slice none 0 0] 27) := ⟨_, rfl⟩
  rw [← hW2]
  have hF2 := HF2.out
  rw [← hW2] at hF2
  clear HF2 hW2 q1 q2 q3 q5
  obtain ⟨ov, hov⟩ : ∃ ov, ov = w2.heap.size := ⟨_, rfl⟩
  rw [← hov] at hF2 ⊢
  clear hov
  refine propLoop2 w W2 ⟨w.heap.size, fv, fp, SD, RK, ov, D.n⟩ (inB ls) hn3 _ hF2 _ _ _ _ _ _ _ _ _ _ _ _ _ _ _ _ _ _ _ _ _ _ _ _ _ _ _ _ _ _ _ _ _ _ _ _ _ _ _ _ _ _ _ _ _ _ _ _ _ _ _ _ _ _ _ _ _ _ _ _ _ _ _ _ _ _ _ _ _ _ _ _ _ _ _ _ _ _ _ _ _ _ _ _ _ _ _ _ _ _ _ _ _ _ _ _ _ _ _ _ _ _ _ _ _ _ _ _ _ _ _ _ _ _ _ _ _ _ _ _ _ _ _ _ _ _ _ _ _ _ _ _ _ _ _ _ _ _ _ _ _ _ _ _ _ _ _ ?_
  intro b12 b52 b53 b54 b55 b56 b57 b58 b59 b60 b61 b62 b63 b64 b65 b66 b67 b68 b69 b70 b71 w3 v3 hF3
  have hBw3 : Below w.heap.size w w3 := hF3.below
  have g3 := cell_old hBw3 HG.out.c1
  have m3 := run_make_row' (P := Ybaf.prog) 27 3 (.int .i64 0) 8 Ybaf.underlying27 info3 rfl .i64 .i64 D.n (by omega) (by omega)
  have HP3 : Hid (Pst w (w3.alloc (.cells (madeCells #[.int .i64 0] D.n) 3)) ⟨w.heap.size, fv, fp, SD, RK, ov, D.n⟩ (inB ls) (st D (inB ls) 0) v3 w3.heap.size) := hid (pst_of_fst (D := D) HD.out rfl hF3)
  clear hF3 hF2 hBw3
  go_wp2
  obtain ⟨W3, hW3⟩ : ∃ W3, W3 = w3.alloc (.cells (madeCells #[.int .i64 0] D.n) 3) := ⟨_, rfl⟩
  rw [← hW3]
  have hP3 := HP3.out
  rw [← hW3] at hP3
  clear HP3 hW3 g3 m3
  obtain ⟨AB, hAB⟩ : ∃ ov, ov = w3.heap.size := ⟨_, rfl⟩
  rw [← hAB] at hP3 ⊢
  clear hAB
  refine propLoop3 w W3 M D HD.out HG.out ⟨w.heap.size, fv, fp, SD, RK, ov, D.n⟩ rfl rfl (inB ls) AB v3 hP3 _ _ _ _ _ _ _ _ _ _ _ _ _ _ _ _ _ _ _ _ _ _ _ _ _ _ _ _ _ _ _ _ _ _ _ _ _ _ _ _ _ _ _ _ _ _ _ _ _ _ _ _ _ _ _ _ _ _ _ _ _ _ _ _ _ _ _ _ _ _ _ _ _ _ _ _ _ _ _ _ _ _ _ _ _ _ _ _ _ _ _ _ _ _ _ _ _ _ _ _ _ _ _ _ _ _ _ _ _ _ _ _ _ _ _ _ _ _ _ _ _ _ _ _ _ _ _ _ _ _ _ _ _ _ _ _ _ _ _ _ _ _ _ _ ?_
  intro d14 d16 d17 d78 d79 d80 d81 d82 d83 d84 d85 d86 d87 d88 d89 d90 d91 d92 d93 d94 d95 d96 d97 d98 d99 d100 d101 d102 d103 d104 d105 d106 d107 d108 d109 d110 d111 d112 d113 d114 d115 d116 d117 d118 d119 d120 d121 d122 d123 d124 d125 d126 d127 d128 d129 d130 d131 d132 d133 d134 d135 d136 d137 d138 d139 d140 d141 d142 d143 d144 d145 d146 d147 d148 w4 v4 hP4
  have q4 : w4.cell? ⟨fv, 0, none⟩ = some (.pointer (some ⟨fp, 0, none⟩)) := hP4.f.cells.1
  have HP4 := hid hP4
  clear hP4 hP3
  go_wp2
  go_ret
  refine ⟨fp, rfl, HP4.out.f.below, SD, RK, ?_⟩
  have hf := HP4.out.f
  exact ⟨by simp [World.cell?, hf.hfp], hf.cells.2.1, hf.cells.2.2.1, fun i hi => hf.sd.cell hi, fun i hi => hf.rk.cell hi⟩

end Go.Proofs.YbulkectmFmt.A
