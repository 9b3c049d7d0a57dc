import Derived.Test.YbulkecxuCLaid
namespace Go.Proofs.Ybulkecxu.C
set_option linter.unusedVariables false
set_option linter.unusedSimpArgs false
open Go.RowKit Go.Deep
attribute [local go_sem ↓] toLd37 toSt37 toNq37 toB47 toAl37

theorem came_want {W : World} {a : Option Addr} {n2 n1 : Nat} {F S : Nat → List Value} (h : Came W a n2 S) : Came W a n2 (fun j => want F S n1 (160 + j)) := by
  have e : (fun j => want F S n1 (160 + j)) = S := by
    funext j
    unfold want
    rw [if_neg (by omega), show 160 + j - 160 = j by omega]
  rw [e]
  exact h

set_option maxRecDepth 1000000 in
set_option maxHeartbeats 8000000 in
/-- The law where both lists are within its bound. -/
theorem main_any (a1 a2 : Option Addr) (n1 c1 n2 c2 : Nat) (brk : Bool) (kk : Int) (F S : Nat → List Value) (w : World) (hF : Came w a1 n1 F) (hS : Came w a2 n2 S) (hn1 : n1 ≤ 1048576) (hn2 : n2 ≤ 1048576) (hnil : a2 = none → n2 = 0 ∧ c2 = 0) (hk0 : 0 ≤ kk) (hk1 : kk ≤ 65535) :
    Calls Yba.prog 3 #[.slice a1 n1 c1, .slice a2 n2 c2, .bool brk, .int .u16 kk] w fun e w' => e = .returned (.bool true) ∧ Below w.heap.size w w' := by
  have t1 : decide ((1048576 : Int) < (n1 : Int)) = false := by simp; omega
  have t2 : decide ((1048576 : Int) < (n2 : Int)) = false := by simp; omega
  have lF := came_lt hF
  have lS := came_lt hS
  obtain ⟨bb, hbb⟩ : ∃ bb, bb = w.heap.size := ⟨_, rfl⟩
  obtain ⟨Wb, hWb⟩ : ∃ Wb, Wb = w.alloc (.cells #[.bool brk] 4) := ⟨_, rfl⟩
  have hBb : Below w.heap.size w Wb := by rw [hWb]; exact (Below.refl _ _).alloc (Nat.le_refl _) _
  have cb : Wb.cell? ⟨bb, 0, none⟩ = some (.bool brk) := by rw [hWb, hbb]; simp
  have sb : Wb.heap.size = bb + 1 := by rw [hWb, hbb]; simp
  have HWb := hid hWb
  have Hbb := hid hbb
  have HT1 := hid t1
  have HCL := hid (clone_any a2 n2 c2 S Wb (came_keep hBb lS hS) hn2 hnil)
  clear hWb hbb
  have HBb := hid hBb
  have HF := hid hF
  have HS := hid hS
  have HlF := hid lF
  have HlS := hid lS
  have Hcb := hid cb
  have Hsb := hid sb
  clear hBb hF hS lF lS cb sb
  go_enter Yba.func3, Yba.ntmps3
  go_wp2_with fail
  rw [← Hbb.out, ← HWb.out]
  refine (HCL.out).mono ?_
  rintro e W ⟨v9, rfl, ⟨a9, c9, rfl, hcp⟩, hBW⟩
  have HCP := hid hcp
  have HBW := hid hBW
  clear HCL hcp hBW HT1
  have hb47 := bd47 W
  go_wp2
  obtain ⟨n, hn⟩ : ∃ n, n = W.heap.size := ⟨_, rfl⟩
  have hf0 := fing0 W F
  obtain ⟨W1, hW1⟩ : ∃ W1, W1 = W.alloc (.cells (node0F Yba.prog) 47) := ⟨_, rfl⟩
  rw [← hn, ← hW1] at hf0
  rw [← hn, ← hW1]
  have hbn : bb < n := by have := HBW.out.size; rw [Hsb.out, ← hn] at this; omega
  have HBwW : Hid (Below w.heap.size w W) := hid (HBb.out.trans (HBW.out.mono (by rw [Hsb.out, ← Hbb.out]; omega)))
  have HlFn : Hid (∀ x, a1 = some x → 0 < n1 → x.block < n) := hid (fun x hx h => by have := HlF.out x hx h; rw [← Hbb.out] at this; omega)
  have HlSn : Hid (∀ x, a2 = some x → 0 < n2 → x.block < n) := hid (fun x hx h => by have := HlS.out x hx h; rw [← Hbb.out] at this; omega)
  have HFW : Hid (Came W a1 n1 F) := hid (came_keep HBwW.out HlF.out HF.out)
  have HSW : Hid (Came W a2 n2 S) := hid (came_keep HBwW.out HlS.out HS.out)
  have HcbW : Hid (W.cell? ⟨bb, 0, none⟩ = some (.bool brk)) := hid (cell_keep HBW.out (by rw [Hsb.out]; omega) Hcb.out)
  have Hn := hid hn
  clear hW1 hb47 hn HWb
  refine loop1 W W1 n F hf0 a1 n1 c1 HFW.out HlFn.out hn1 _ _ _ _ _ _ _ _ _ _ _ _ _ _ _ _ _ _ _ _ _ _ _ _ _ _ _ _ _ _ _ _ _ _ _ _ _ _ _ _ _ _ _ _ _ _ _ _ _ _ _ _ _ _ _ _ _ _ _ _ _ _ _ _ _ _ _ _ _ _ _ _ _ _ _ _ _ _ _ _ _ _ _ _ _ _ _ _ _ _ _ _ _ _ _ _ _ _ _ _ _ _ _ _ _ _ _ _ _ _ _ _ _ _ _ _ ?_
  intro v11 v33 v34 v35 v36 v37 v38 v39 v40 v41 v42 v43 v44 v45 v46 v47 v48 v49 v50 v51 wr k hka hkb hkc hFi
  clear hf0
  have hA : ∀ i, i < 160 + n2 → Mem (want F S n1 i) := want_mem (fun i hi => (HF.out i hi).1) (fun i hi => (HS.out i hi).1)
  have hr : wr.rangeAt n 24 (flat (want F S n1) 160) := fing_want hFi hka hkb hkc (fun i hi => (HF.out i hi).1)
  obtain ⟨w3, u, hst, hcu, hfu, hLaid⟩ := laid_of hFi (fun i hi => hA i (by omega)) hr
  have hld := load_fin wr n 24 (want F S n1) (fun i hi => hA i (by omega)) hr
  have hal := al_fin wr
  have hs1 := hFi.size
  rw [hs1] at hal
  have hs3 := hLaid.size
  have HBG := hid (begun_of hLaid u hcu (kk + 1) a2 n2 c2 (fun i hi => hA i (by omega)) (came_want HSW.out) HlSn.out)
  have HA := hid hA
  have hwk : IntKind.i64.wrap (kk + 1) = kk + 1 := by rw [IntKind.wrap_i64]; omega
  have hwk0 : IntKind.i64.wrap kk = kk := by rw [IntKind.wrap_i64]; omega
  clear hLaid hr hFi hA hka hkb hkc
  go_wp2_with fail
  refine (known5 n _).mono ?_
  rintro e w5 ⟨rfl, rfl⟩
  obtain ⟨G, hG⟩ : ∃ G, G = n + 2 := ⟨_, rfl⟩
  have hs5 : ((((w3.setCell ⟨n, 3384, none⟩ (.slice a2 n2 c2)).alloc (.cells #[.slice none 0 0] 22)).alloc (.cells #[.int .i64 0] 3)).alloc (.cells #[.int .i64 (kk + 1)] 3)).heap.size = G + 3 := by simp only [nblk_alloc, nblk_setCell]; omega
  rw [hs5]
  rw [show ((((w3.setCell ⟨n, 3384, none⟩ (.slice a2 n2 c2)).alloc (.cells #[.slice none 0 0] 22)).alloc (.cells #[.int .i64 0] 3)).alloc (.cells #[.int .i64 (kk + 1)] 3)).alloc (.cells #[.pointer (some ⟨n, 0, none⟩)] 29) = before w3 n (.slice a2 n2 c2) (kk + 1) from rfl]
  rw [show n + 2 + 1 + 1 = G + 2 by omega, show n + 2 + 1 = G + 1 by omega, ← hG]
  rw [← hG] at HBG
  obtain ⟨W5, hW5⟩ : ∃ W5, W5 = before w3 n (.slice a2 n2 c2) (kk + 1) := ⟨_, rfl⟩
  rw [← hW5] at HBG ⊢
  clear hW5 hs5 hst hcu hfu hld hal hs1 hs3
  have hnG : n + 1 < G := by omega
  have HG := hid hG
  clear hG
  have HBn := hid (HBG.out.2.1)
  have HK8 := hid (known_any W5 G (kk + 1) n a2 n2 c2 (want F S n1) HBG.out.1 bb brk (by omega) (cell_keep HBn.out hbn HcbW.out) hn2 (by omega))
  go_wp2_with fail
  refine (HK8.out).mono ?_
  rintro e w6 ⟨⟨u6, rfl⟩, kx, vx, hGot, hEnd⟩
  clear HK8
  have hkx : kx ≤ 160 + n2 := by rcases hEnd with ⟨_, _, h⟩ | ⟨h, _⟩ <;> omega
  obtain ⟨ga, gc, rfl, hga⟩ := came_own hGot.own (fun i hi => HA.out i (by omega))
  have HGA := hid hga
  have g0 : w6.cell? ⟨G, 0, none⟩ = some (.slice ga kx gc) := by simp [World.cell?, hGot.gotc]
  have g2 : w6.cell? ⟨G + 2, 0, none⟩ = some (.int .i64 (kk + 1)) := by simp [World.cell?, hGot.limc]
  have g1 : w6.cell? ⟨bb, 0, none⟩ = some (.bool brk) := cell_keep hGot.below (by omega) (cell_keep HBn.out hbn HcbW.out)
  have HB56 := hid hGot.below
  have HBW6 : Hid (Below n W w6) := hid (HBn.out.trans (HB56.out.mono (by omega)))
  have HBw6 : Hid (Below w.heap.size w w6) := hid (HBwW.out.trans (HBW6.out.mono (by rw [Hn.out]; exact HBwW.out.size)))
  have HF6 : Hid (Came w6 a1 n1 F) := hid (came_keep HBW6.out HlFn.out HFW.out)
  have HS6 : Hid (Came w6 a2 n2 S) := hid (came_keep HBW6.out HlSn.out HSW.out)
  have HC6 : Hid (Came w6 a9 n2 S) := hid (came_keep HBW6.out (fun x hx h => by rw [Hn.out]; exact came_lt HCP.out x hx h) HCP.out)
  have HR1 : Hid (w6.rangeAt n 24 (flat (want F S n1) 160)) := hid (fun j v hv => cell_keep HB56.out (by omega) (HBG.out.2.2.1 j v hv))
  have HR2 : Hid (w6.rangeAt (n + 1) 0 (flat (want F S n1) 160)) := hid (fun j v hv => cell_keep HB56.out (by omega) (HBG.out.2.2.2 j v hv))
  have HK := hid hkx
  clear hGot hga HBG
  have hwx : IntKind.i64.wrap (kx : Int) = (kx : Int) := by rw [IntKind.wrap_i64]; omega
  cases brk with
  | false =>
    have hx : kx = 160 + n2 := by
      rcases hEnd with ⟨h, _⟩ | ⟨h, _⟩
      · cases h
      · exact h
    have hexp : (160 : Int) + (n2 : Int) = (kx : Int) := by omega
    clear hEnd hx hkx hwk hwk0
    go_wp2_with fail
    refine loop2 w6 G kx n1 n2 c1 c9 gc a1 a9 ga F S g0 HGA.out HF6.out HC6.out HK.out hn2 _ _ _ _ _ _ _ _ _ _ _ _ _ _ _ _ _ _ _ _ _ _ _ _ _ _ _ _ _ _ _ _ _ _ _ _ _ _ _ _ _ _ _ _ _ _ _ _ _ _ _ _ _ _ _ _ _ _ _ _ _ _ _ _ _ _ _ _ _ _ _ _ _ _ _ _ _ _ _ _ _ _ _ _ _ _ _ _ _ _ _ _ _ _ _ _ _ _ _ _ _ _ _ _ _ _ _ _ _ _ _ _ _ _ ?_
    intro x8 x19 x20 x83 x84 x85 x86 x87 x88 x89 x90 x91 x92 x93 x94 x95 x96 x97 x98 x99 x100 x101 x102 x103 x104 x105 x106 x107 x108 w7 hB7
    have r1 := fun d => load_fin (w7.drewN d) n 24 (want F S n1) (fun i hi => HA.out i (by omega)) (fun j v hv => cell_keep hB7 (lt_of_cell (HR1.out j v hv)) (HR1.out j v hv))
    have r2 := fun d => load_fin (w7.drewN d) (n + 1) 0 (want F S n1) (fun i hi => HA.out i (by omega)) (fun j v hv => cell_keep hB7 (lt_of_cell (HR2.out j v hv)) (HR2.out j v hv))
    have r3 := fun d => nq_fin (A := want F S n1) (fun i hi => HA.out i (by omega)) (w7.drewN d)
    have HB7 : Hid (Below w.heap.size w w7) := hid (HBw6.out.trans (hB7.mono HBw6.out.size))
    have HC7 : Hid (Came w7 a9 n2 S) := hid (came_keep hB7 (came_lt HC6.out) HC6.out)
    have HS7 : Hid (Came w7 a2 n2 S) := hid (came_keep hB7 (came_lt HS6.out) HS6.out)
    clear hB7 g0 g1 g2
    go_wp2_with fail
    go_quiet (fail)
    have HE := hid (equal_any a2 a9 n2 c2 c9 S (w7.drewN nq) HS7.out HC7.out hn2)
    have HB8 : Hid (Below w.heap.size w (w7.drewN nq)) := hid (below_drewN HB7.out nq)
    clear r1 r2 r3
    go_wp2_with fail
    refine (HE.out).mono ?_
    rintro e w8 ⟨rfl, d8, rfl⟩
    go_wp2
    go_ret
    exact ⟨rfl, below_drewN HB7.out _⟩
  | true =>
    by_cases hlt : kk + 1 < 160 + (n2 : Int)
    · have hx : kk + 1 = (kx : Int) := by
        rcases hEnd with ⟨_, h, _⟩ | ⟨h, h2⟩
        · exact h
        · have := h2 rfl; omega
      rw [hx] at g2 hlt
      have hwt : IntKind.i64.wrap (160 + (n2 : Int)) = 160 + (n2 : Int) := by rw [IntKind.wrap_i64]; omega
      have ht : decide ((kx : Int) < 160 + (n2 : Int)) = true := decide_eq_true hlt
      clear hEnd hkx hwk hwk0 hx
      go_wp2_with fail
      refine loop2 w6 G kx n1 n2 c1 c9 gc a1 a9 ga F S g0 HGA.out HF6.out HC6.out HK.out hn2 _ _ _ _ _ _ _ _ _ _ _ _ _ _ _ _ _ _ _ _ _ _ _ _ _ _ _ _ _ _ _ _ _ _ _ _ _ _ _ _ _ _ _ _ _ _ _ _ _ _ _ _ _ _ _ _ _ _ _ _ _ _ _ _ _ _ _ _ _ _ _ _ _ _ _ _ _ _ _ _ _ _ _ _ _ _ _ _ _ _ _ _ _ _ _ _ _ _ _ _ _ _ _ _ _ _ _ _ _ _ _ _ _ _ ?_
      intro x8 x19 x20 x83 x84 x85 x86 x87 x88 x89 x90 x91 x92 x93 x94 x95 x96 x97 x98 x99 x100 x101 x102 x103 x104 x105 x106 x107 x108 w7 hB7
      have r1 := fun d => load_fin (w7.drewN d) n 24 (want F S n1) (fun i hi => HA.out i (by omega)) (fun j v hv => cell_keep hB7 (lt_of_cell (HR1.out j v hv)) (HR1.out j v hv))
      have r2 := fun d => load_fin (w7.drewN d) (n + 1) 0 (want F S n1) (fun i hi => HA.out i (by omega)) (fun j v hv => cell_keep hB7 (lt_of_cell (HR2.out j v hv)) (HR2.out j v hv))
      have r3 := fun d => nq_fin (A := want F S n1) (fun i hi => HA.out i (by omega)) (w7.drewN d)
      have HB7 : Hid (Below w.heap.size w w7) := hid (HBw6.out.trans (hB7.mono HBw6.out.size))
      have HC7 : Hid (Came w7 a9 n2 S) := hid (came_keep hB7 (came_lt HC6.out) HC6.out)
      have HS7 : Hid (Came w7 a2 n2 S) := hid (came_keep hB7 (came_lt HS6.out) HS6.out)
      clear hB7 g0 g1 g2
      go_wp2_with fail
      go_quiet (fail)
      have HE := hid (equal_any a2 a9 n2 c2 c9 S (w7.drewN nq) HS7.out HC7.out hn2)
      have HB8 : Hid (Below w.heap.size w (w7.drewN nq)) := hid (below_drewN HB7.out nq)
      clear r1 r2 r3
      go_wp2_with fail
      refine (HE.out).mono ?_
      rintro e w8 ⟨rfl, d8, rfl⟩
      go_wp2
      go_ret
      exact ⟨rfl, below_drewN HB7.out _⟩
    · have hx : kx = 160 + n2 := by
        rcases hEnd with ⟨_, h, h3⟩ | ⟨h, _⟩
        · omega
        · exact h
      have hexp : (160 : Int) + (n2 : Int) = (kx : Int) := by omega
      have ht : decide (kk + 1 < (kx : Int)) = false := by simp; omega
      clear hEnd hkx hwk hwk0 hx hlt
      go_wp2_with fail
      refine loop2 w6 G kx n1 n2 c1 c9 gc a1 a9 ga F S g0 HGA.out HF6.out HC6.out HK.out hn2 _ _ _ _ _ _ _ _ _ _ _ _ _ _ _ _ _ _ _ _ _ _ _ _ _ _ _ _ _ _ _ _ _ _ _ _ _ _ _ _ _ _ _ _ _ _ _ _ _ _ _ _ _ _ _ _ _ _ _ _ _ _ _ _ _ _ _ _ _ _ _ _ _ _ _ _ _ _ _ _ _ _ _ _ _ _ _ _ _ _ _ _ _ _ _ _ _ _ _ _ _ _ _ _ _ _ _ _ _ _ _ _ _ _ ?_
      intro x8 x19 x20 x83 x84 x85 x86 x87 x88 x89 x90 x91 x92 x93 x94 x95 x96 x97 x98 x99 x100 x101 x102 x103 x104 x105 x106 x107 x108 w7 hB7
      have r1 := fun d => load_fin (w7.drewN d) n 24 (want F S n1) (fun i hi => HA.out i (by omega)) (fun j v hv => cell_keep hB7 (lt_of_cell (HR1.out j v hv)) (HR1.out j v hv))
      have r2 := fun d => load_fin (w7.drewN d) (n + 1) 0 (want F S n1) (fun i hi => HA.out i (by omega)) (fun j v hv => cell_keep hB7 (lt_of_cell (HR2.out j v hv)) (HR2.out j v hv))
      have r3 := fun d => nq_fin (A := want F S n1) (fun i hi => HA.out i (by omega)) (w7.drewN d)
      have HB7 : Hid (Below w.heap.size w w7) := hid (HBw6.out.trans (hB7.mono HBw6.out.size))
      have HC7 : Hid (Came w7 a9 n2 S) := hid (came_keep hB7 (came_lt HC6.out) HC6.out)
      have HS7 : Hid (Came w7 a2 n2 S) := hid (came_keep hB7 (came_lt HS6.out) HS6.out)
      clear hB7 g0 g1 g2
      go_wp2_with fail
      go_quiet (fail)
      have HE := hid (equal_any a2 a9 n2 c2 c9 S (w7.drewN nq) HS7.out HC7.out hn2)
      have HB8 : Hid (Below w.heap.size w (w7.drewN nq)) := hid (below_drewN HB7.out nq)
      clear r1 r2 r3
      go_wp2_with fail
      refine (HE.out).mono ?_
      rintro e w8 ⟨rfl, d8, rfl⟩
      go_wp2
      go_ret
      exact ⟨rfl, below_drewN HB7.out _⟩

end Go.Proofs.Ybulkecxu.C
