import Derived.Test.YbulkectmFmtAPref
namespace Go.Proofs.YbulkectmFmt.A
set_option linter.unusedVariables false
set_option linter.unusedSimpArgs false
open Go.RowKit Go.Deep

theorem row_of_cells {w : World} {blk cap : Nat} {L : List Nat} (h : ∀ j (h : j < L.length), w.cell? ⟨blk, j, none⟩ = some (.int .i64 ((L[j] : Nat) : Int))) : Row w (.slice (some ⟨blk, 0, none⟩) L.length cap) L.length (ints L) := by
  refine ⟨_, _, rfl, fun i _ => ⟨blk, 0, rfl, fun j hj => ?_⟩⟩
  rw [Nat.zero_add, h j hj]
  unfold ints
  rw [List.getD_eq_getElem?_getD, List.getElem?_eq_getElem hj]
  rfl

set_option maxRecDepth 1000000 in
set_option maxHeartbeats 8000000 in
/-- preferred. -/
theorem preferred_any (w : World) (M : GM) (D : GD) (hD : D.Ok) (hG : Gr w M D) (fp SD RK : Nat) (seed : Nat → Bool) (rank : Nat → Int) (hF : Fir w fp SD RK D.n seed rank) (hinj : ∀ x y, 0 ≤ rank x → rank x = rank y → x = y) (RB : Nat) (R : Nat → Bool) (hR : ∀ i, i < D.n → w.cell? ⟨RB, i, none⟩ = some (.bool (R i))) (v : Nat) (hv : v < D.n) :
    Calls Ybaf.prog 20 #[.pointer (some ⟨M.gp, 0, none⟩), .pointer (some ⟨fp, 0, none⟩), .int .i64 (v : Int), .slice (some ⟨RB, 0, none⟩) D.n D.n] w fun e w' => ∃ u, e = .returned u ∧ Below w.heap.size w w' ∧ Row w' u (prefL D seed rank R v).length (ints (prefL D seed rank R v)) ∧ ∀ x k c, u = .slice (some x) k c → w.heap.size ≤ x.block := by
  have hn3 := hD.hn
  obtain ⟨W0, hW0⟩ : ∃ W0, W0 = (w.alloc (.cells #[.pointer (some ⟨M.gp, 0, none⟩)] 46)).alloc (.cells #[.pointer (some ⟨fp, 0, none⟩)] 66) := ⟨_, rfl⟩
  have hB0 : Below w.heap.size w W0 := by rw [hW0]; exact ((Below.refl _ _).alloc (Nat.le_refl _) _).alloc (by rw [nblk_alloc]; omega) _
  have hs0 : W0.heap.size = w.heap.size + 2 := by rw [hW0]; simp
  have b0 : W0.cell? ⟨w.heap.size, 0, none⟩ = some (.pointer (some ⟨M.gp, 0, none⟩)) := by rw [hW0]; simp
  have b1 : W0.cell? ⟨w.heap.size + 1, 0, none⟩ = some (.pointer (some ⟨fp, 0, none⟩)) := by rw [hW0]; simp
  obtain ⟨gi1, gi2⟩ := hG.inn v hv
  obtain ⟨ia, ic, hiv, hrows⟩ := gi2
  have g6 := hG.c6
  have g8 := gi1
  rw [hiv] at g8
  have l6 := lt_of_cell g6
  have l8 := lt_of_cell g8
  have hr4 := row_ints (a := ia) (c := ic) (l := inL D v) (w := w) ⟨ia, ic, rfl, hrows⟩
  obtain ⟨gb, hgb⟩ : ∃ gb, gb = w.heap.size := ⟨_, rfl⟩
  rw [← hgb] at b0 b1 hs0
  have HW0 := hid hW0
  have Hgb := hid hgb
  have HG := hid hG
  have HD := hid hD
  have HF := hid hF
  have HR := hid hR
  have HB0 := hid hB0
  have HR4 := hid hr4
  have HI := hid hinj
  have Hs0 := hid hs0
  have v0 : (0 : Int) ≤ (v : Int) := by omega
  have v1 : (v : Int) < (D.n : Int) := by omega
  clear hW0 hgb hG hD hF hR hB0 hr4 hinj hrows gi1 hiv hs0
  go_enter Ybaf.func20, Ybaf.ntmps20
  go_wp2_with fail
  rw [← HW0.out, ← Hgb.out]
  clear HW0 g6 g8 l6 l8
  refine prefLoop w W0 HB0.out M D HD.out HG.out fp SD RK seed rank HF.out RB R HR.out gb (gb + 1) b0 b1 ia ic (inL D v) (fun e he => (mem_inL.1 he).1) (Nat.le_trans (inL_len D v) HD.out.hm) HR4.out _ _ _ _ _ _ _ _ _ _ _ _ _ _ _ _ _ _ _ _ _ _ _ _ _ _ _ _ _ _ _ _ _ _ _ _ _ _ _ _ _ _ _ ?_
  intro y11 y20 y21 y22 y23 y24 y25 y26 y27 y28 y29 y30 y31 y32 y33 y34 y35 y36 y37 y38 y39 y40 y41 y42 y43 y44 w1 u hC
  obtain ⟨L, hL⟩ : ∃ L, L = candE D seed rank R v := ⟨_, rfl⟩
  have hC' : Cst w W0 w1 gb (gb + 1) W0.heap.size L u := by rw [hL]; exact hC
  have hLm : ∀ e ∈ L, e < D.m := fun e he => by rw [hL] at he; exact (mem_candE.1 he).1
  have hLlen : L.length ≤ 2048 := by
    rw [hL]
    exact Nat.le_trans (List.length_filter_le _ _) (Nat.le_trans (inL_len D v) HD.out.hm)
  have hBw1 : Below w.heap.size w w1 := below_up HB0.out hC'.below
  have c0 := cell_old hC'.below b0
  have c1 := cell_old hC'.below b1
  by_cases hne : L = []
  · have hu := hC'.nil hne
    have HN := hid (fun fv => sort_none fv w1)
    have HB1 := hid hBw1
    have HPL := hid (show prefL D seed rank R v = [] by unfold prefL; rw [← hL, hne]; simp)
    subst hu
    clear hC hC' hL hLm hLlen hBw1 hne
    go_wp2_with fail
    refine (HN.out _).mono ?_
    rintro e w' ⟨⟨u', rfl⟩, rfl⟩
    go_wp2
    go_ret
    refine ⟨_, rfl, HB1.out, ?_, fun x k c h => by cases h⟩
    rw [HPL.out]
    exact ⟨none, 0, rfl, fun i hi => absurd hi (by simp)⟩
  · have hown := hC'.own
    obtain ⟨blk, cap, rfl⟩ : ∃ blk cap, u = .slice (some ⟨blk, 0, none⟩) L.length cap := by
      rcases hown.2 with ⟨_, e⟩ | ⟨g, c, cur, e, _⟩
      · exact absurd (List.length_eq_zero_iff.1 e) hne
      · exact ⟨g, c, e⟩
    have hlo := (hown.lt blk rfl).1
    have hs0 := Hs0.out
    have HSO := hid (sort_any w w1 M D HD.out hBw1 HG.out fp SD RK seed rank HF.out gb (gb + 1) c0 c1 blk cap (by omega) (by omega) L hLm hne hLlen W0.heap.size hown (by have := HB0.out.size; omega))
    have HBLK : Hid (w.heap.size ≤ blk) := hid (by have := HB0.out.size; omega)
    have HL := hid hL
    clear hC hC' hLm hBw1 hne hown hlo hs0 hL
    go_wp2_with fail
    refine (HSO.out).mono ?_
    rintro e w' ⟨⟨u', rfl⟩, hB', L', hp, hs, hc⟩
    have HB' := hid hB'
    have HC' := hid hc
    have hE : L' = prefL D seed rank R v := prefL_unique HD.out HI.out L' (by rw [← HL.out]; exact hp) hs
    have hlen : L'.length = L.length := hp.length_eq
    have HE := hid hE
    have HLEN := hid hlen
    clear hB' hc hE hlen hp hs HSO
    go_wp2
    go_ret
    refine ⟨_, rfl, HB'.out, ?_, fun x k c h => by cases h; exact HBLK.out⟩
    rw [← HE.out]
    have := row_of_cells (cap := cap) HC'.out
    rw [HLEN.out] at this ⊢
    exact this

end Go.Proofs.YbulkectmFmt.A
