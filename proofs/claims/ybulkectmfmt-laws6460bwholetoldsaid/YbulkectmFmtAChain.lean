import Derived.Test.YbulkectmFmtAReg18
namespace Go.Proofs.YbulkectmFmt.A
set_option linter.unusedVariables false
set_option linter.unusedSimpArgs false
open Go.RowKit Go.Deep

/-- A slice of ids. -/
def IdRow (w : World) (v : Value) (p : List Nat) : Prop := ∃ IB, v = .slice (some ⟨IB, 0, none⟩) p.length p.length ∧ ∀ j, j < p.length → w.cell? ⟨IB, j, none⟩ = some (.string (idStr (p.getD j 0)))
/-- What a chain hands back. -/
def Handed' (w : World) (v : Value) : Option (List Nat) → Prop
  | none => v = .slice none 0 0
  | some p => IdRow w v p ∧ p ≠ []

/-- The world in which the chain's walk begins. -/
def chW (w : World) (gp fp RB n : Nat) : World := ((((w.alloc (.cells #[.pointer (some ⟨gp, 0, none⟩)] 46)).alloc (.cells #[.pointer (some ⟨fp, 0, none⟩)] 66)).alloc (.cells #[.slice (some ⟨RB, 0, none⟩) n n] 55)).alloc (.cells (madeCells #[.bool false] n) 4)).alloc (.cells #[.slice (some ⟨w.heap.size + 3, 0, none⟩) n n] 55)

theorem chW_facts (w : World) (gp fp RB n : Nat) : Below w.heap.size w (chW w gp fp RB n) ∧ (chW w gp fp RB n).heap.size = w.heap.size + 5 ∧ (chW w gp fp RB n).heap[w.heap.size]? = some (.cells #[.pointer (some ⟨gp, 0, none⟩)] 46 (0, 0)) ∧ (chW w gp fp RB n).heap[w.heap.size + 1]? = some (.cells #[.pointer (some ⟨fp, 0, none⟩)] 66 (0, 0)) ∧ (chW w gp fp RB n).heap[w.heap.size + 2]? = some (.cells #[.slice (some ⟨RB, 0, none⟩) n n] 55 (0, 0)) ∧ (chW w gp fp RB n).heap[w.heap.size + 3]? = some (.cells (madeCells #[.bool false] n) 4 (0, 0)) ∧ (chW w gp fp RB n).heap[w.heap.size + 4]? = some (.cells #[.slice (some ⟨w.heap.size + 3, 0, none⟩) n n] 55 (0, 0)) := by
  unfold chW
  refine ⟨(((((Below.refl _ _).alloc (Nat.le_refl _) _).alloc (by simp only [nblk_alloc]; omega) _).alloc (by simp only [nblk_alloc]; omega) _).alloc (by simp only [nblk_alloc]; omega) _).alloc (by simp only [nblk_alloc]; omega) _, by simp only [nblk_alloc], ?_, ?_, ?_, ?_, ?_⟩
  · rw [blk_alloc_lt _ _ _ (by simp only [nblk_alloc]; omega), blk_alloc_lt _ _ _ (by simp only [nblk_alloc]; omega), blk_alloc_lt _ _ _ (by simp only [nblk_alloc]; omega), blk_alloc_lt _ _ _ (by simp only [nblk_alloc]; omega)]; exact blk_alloc_new _ _
  · rw [blk_alloc_lt _ _ _ (by simp only [nblk_alloc]; omega), blk_alloc_lt _ _ _ (by simp only [nblk_alloc]; omega), blk_alloc_lt _ _ _ (by simp only [nblk_alloc]; omega)]
    have := blk_alloc_new (w.alloc (.cells #[.pointer (some ⟨gp, 0, none⟩)] 46)) (.cells #[.pointer (some ⟨fp, 0, none⟩)] 66)
    simp only [nblk_alloc] at this; exact this
  · rw [blk_alloc_lt _ _ _ (by simp only [nblk_alloc]; omega), blk_alloc_lt _ _ _ (by simp only [nblk_alloc]; omega)]
    have := blk_alloc_new ((w.alloc (.cells #[.pointer (some ⟨gp, 0, none⟩)] 46)).alloc (.cells #[.pointer (some ⟨fp, 0, none⟩)] 66)) (.cells #[.slice (some ⟨RB, 0, none⟩) n n] 55)
    simp only [nblk_alloc] at this; exact this
  · rw [blk_alloc_lt _ _ _ (by simp only [nblk_alloc]; omega)]
    have := blk_alloc_new (((w.alloc (.cells #[.pointer (some ⟨gp, 0, none⟩)] 46)).alloc (.cells #[.pointer (some ⟨fp, 0, none⟩)] 66)).alloc (.cells #[.slice (some ⟨RB, 0, none⟩) n n] 55)) (.cells (madeCells #[.bool false] n) 4)
    simp only [nblk_alloc] at this; exact this
  · have := blk_alloc_new ((((w.alloc (.cells #[.pointer (some ⟨gp, 0, none⟩)] 46)).alloc (.cells #[.pointer (some ⟨fp, 0, none⟩)] 66)).alloc (.cells #[.slice (some ⟨RB, 0, none⟩) n n] 55)).alloc (.cells (madeCells #[.bool false] n) 4)) (.cells #[.slice (some ⟨w.heap.size + 3, 0, none⟩) n n] 55)
    simp only [nblk_alloc] at this; exact this

/-- The stack of one. -/
theorem chs_init {w : World} {gp fp RB n : Nat} {pref : Nat → List Nat} {x : Nat} {w1 : World} {ua : Option Addr} {uc : Nat} (hB : Below (w.heap.size + 5) ((chW w gp fp RB n).setCell ⟨w.heap.size + 3, x, none⟩ (.bool true)) w1) (hrow : Row w1 (.slice ua (pref x).length uc) (pref x).length (ints (pref x))) (hnew : ∀ y k c, Value.slice ua (pref x).length uc = .slice (some y) k c → w.heap.size + 5 ≤ y.block) :
    Chs w (w1.alloc (.cells #[.int .i64 (x : Int), .slice ua (pref x).length uc, .int .i64 0] 78)) ⟨w.heap.size, w.heap.size + 1, w.heap.size + 2, w.heap.size + 3, w.heap.size + 4, w.heap.size + 5⟩ gp fp RB n pref (upd (fun _ => false) x true) [(x, .slice ua (pref x).length uc, 0)] (.slice (some ⟨w1.heap.size, 0, none⟩) 1 1) := by
  obtain ⟨hB0, hs0, h0, h1, h2, h3, h4⟩ := chW_facts w gp fp RB n
  have hsz : w.heap.size + 5 ≤ w1.heap.size := by have := hB.size; rw [nblk_setCell, hs0] at this; exact this
  have hb : ∀ k, k < w.heap.size + 5 → k ≠ w.heap.size + 3 → (w1.alloc (.cells #[.int .i64 (x : Int), .slice ua (pref x).length uc, .int .i64 0] 78)).heap[k]? = (chW w gp fp RB n).heap[k]? := fun k hk hne => by
    rw [blk_alloc_lt _ _ _ (by omega), hB.block k hk, blk_setCell_other _ _ _ _ (by simpa using hne)]
  refine ⟨?_, (hb w.heap.size (by omega) (by omega)).trans h0, (hb (w.heap.size + 1) (by omega) (by omega)).trans h1, (hb (w.heap.size + 2) (by omega) (by omega)).trans h2, (hb (w.heap.size + 4) (by omega) (by omega)).trans h4, ?_, ?_, fun s hs => ?_, ⟨Nat.le_add_right _ 3, by show w.heap.size < w.heap.size + 5; omega, by show w.heap.size + 1 < w.heap.size + 5; omega, by show w.heap.size + 2 < w.heap.size + 5; omega, by show w.heap.size + 3 < w.heap.size + 5; omega, by show w.heap.size + 4 < w.heap.size + 5; omega, Nat.le_add_right _ 5, by show w.heap.size ≠ w.heap.size + 3; omega, by show w.heap.size + 1 ≠ w.heap.size + 3; omega, by show w.heap.size + 2 ≠ w.heap.size + 3; omega, by show w.heap.size + 4 ≠ w.heap.size + 3; omega⟩⟩
  · exact ((hB0.setCell (by simp) _).trans (hB.mono (by omega))).alloc (by omega) _
  · refine (((made_row h3).set x (.bool true)).congr fun i _ => ?_).of_block ?_
    · by_cases e : i = x
      · subst e; simp [upd]
      · simp [upd, e]
    · show (w1.alloc _).heap[w.heap.size + 3]? = _
      rw [blk_alloc_lt _ _ _ (by omega), hB.block (w.heap.size + 3) (by omega)]
  · refine ⟨rfl, .inr ⟨w1.heap.size, 1, #[.int .i64 (x : Int), .slice ua (pref x).length uc, .int .i64 0], rfl, hsz, blk_alloc_new _ _, Nat.le_refl _, by unfold maxLen; omega, rfl, rfl⟩⟩
  · simp at hs
    subst hs
    obtain ⟨a, c, e, hh⟩ := hrow
    refine ⟨a, c, e, fun j hj => ?_⟩
    obtain ⟨b, o, r1, r2⟩ := hh j hj
    have hc := r2 j hj
    have hbl := lt_of_cell hc
    have hnb : w.heap.size + 5 ≤ b := hnew ⟨b, o, none⟩ _ _ (by rw [e, r1])
    refine ⟨b, o, r1, by show b ≠ w.heap.size + 3; omega, fun e2 => ?_, ?_⟩
    · have e' : w1.heap.size = b := by injection e2
      omega
    · rw [World.cell?_alloc_lt _ _ _ hbl, hc]
      unfold ints
      rw [List.getD_eq_getElem?_getD, List.getElem?_eq_getElem hj]
      rfl

theorem cnt_one (n x : Nat) (hx : x < n) : 1 + cnt n (upd (fun _ => false) x true) ≤ n := by
  have h1 := cnt_enter n (fun _ => false) x hx rfl
  have h2 := cnt_le n (fun _ => false)
  omega

set_option maxRecDepth 1000000 in
set_option maxHeartbeats 8000000 in
/-- chain. -/
theorem chain_any (w : World) (M : GM) (D : GD) (hD : D.Ok) (hG : Gr w M D) (fp SD RK : Nat) (seed : Nat → Bool) (rank : Nat → Int) (hF : Fir w fp SD RK D.n seed rank) (hinj : ∀ x y, 0 ≤ rank x → rank x = rank y → x = y) (RB : Nat) (R : Nat → Bool) (hR : ∀ i, i < D.n → w.cell? ⟨RB, i, none⟩ = some (.bool (R i))) (x : Nat) (hx : x < D.n) :
    Calls Ybaf.prog 14 #[.pointer (some ⟨M.gp, 0, none⟩), .pointer (some ⟨fp, 0, none⟩), .int .i64 (x : Int), .slice (some ⟨RB, 0, none⟩) D.n D.n] w fun e w' => ∃ v, e = .returned v ∧ Below w.heap.size w w' ∧ Handed' w' v (V ⟨D.n, seed, D.src, prefL D seed rank R⟩ (fun _ => false) x).1 := by
  have hn3 := hD.hn
  obtain ⟨G, hGd⟩ : ∃ G : DG, G = ⟨D.n, seed, D.src, prefL D seed rank R⟩ := ⟨_, rfl⟩
  have hGO : G.Ok := by rw [hGd]; exact ⟨fun v e he => hD.sl e (mem_prefL.1 he).1⟩
  have hGn : G.n = D.n := by rw [hGd]
  have hGs : G.seed = seed := by rw [hGd]
  have hGr : G.src = D.src := by rw [hGd]
  have hGp : G.pref = prefL D seed rank R := by rw [hGd]
  rw [← hGd]
  obtain ⟨hB0, hs0, h0, h1, h2, h3, h4⟩ := chW_facts w M.gp fp RB D.n
  have g1 := hG.c1
  have l1 := lt_of_cell g1
  have l2 : M.gp < w.heap.size + 1 := by omega
  have l3 : M.gp < w.heap.size + 1 + 1 := by omega
  have m4 := run_make_row' (P := Ybaf.prog) 55 4 (.bool false) 1 Ybaf.underlying55 info4 rfl .i64 .i64 D.n (by omega) (by omega)
  have HEN := hid (enter_any w (chW w M.gp fp RB D.n) hB0 M D hD hG fp SD RK seed rank hF hinj RB R hR (w.heap.size + 4) (w.heap.size + 3) w.heap.size (w.heap.size + 1) (w.heap.size + 2) (by omega) (by simp [World.cell?, h4]) (by simp [World.cell?, h0]) (by simp [World.cell?, h1]) (by simp [World.cell?, h2]) (by omega) (by omega) (by omega) (fun _ => false) (made_row h3) x hx)
  have HCW := hid (show chW w M.gp fp RB D.n = ((((w.alloc (.cells #[.pointer (some ⟨M.gp, 0, none⟩)] 46)).alloc (.cells #[.pointer (some ⟨fp, 0, none⟩)] 66)).alloc (.cells #[.slice (some ⟨RB, 0, none⟩) D.n D.n] 55)).alloc (.cells (madeCells #[.bool false] D.n) 4)).alloc (.cells #[.slice (some ⟨w.heap.size + 3, 0, none⟩) D.n D.n] 55) from rfl)
  have HGn := hid hGn
  have HGs := hid hGs
  have HGr := hid hGr
  have HGp := hid hGp
  have HS0 := hid hs0
  have HG := hid hG
  have HD := hid hD
  have HF := hid hF
  have HI := hid hinj
  have HR := hid hR
  clear hB0 hs0 h0 h1 h2 h3 h4 hGd hGn hGs hGr hGp hG hD hF hinj hR
  go_enter Ybaf.func14, Ybaf.ntmps14
  go_wp2_with fail
  refine (HEN.out).mono ?_
  rintro e w1 ⟨u, rfl, hB1, hrow1, hnew1⟩
  obtain ⟨ua, uc, rfl, hrr⟩ := hrow1
  rw [HS0.out] at hB1 hnew1
  rw [← HGp.out] at hrr hnew1 ⊢
  have hC0 := chs_init (pref := G.pref) hB1 ⟨ua, uc, rfl, hrr⟩ hnew1
  have hS0 : SOk G (V G (fun _ => false) x).1 (upd (fun _ => false) x true) [(x, .slice ua (G.pref x).length uc, 0)] := by
    have hxG : x < G.n := by rw [HGn.out]; exact hx
    refine ⟨?_, fun S s e t ht => ?_, fun s hs => ?_, ?_⟩
    · have := RES_start hGO x hxG
      simpa [stk] using this
    · have hl := congrArg List.length e
      rw [List.length_append] at hl
      have : S = [] := List.length_eq_zero_iff.1 (by simp only [List.length_cons, List.length_nil] at hl; omega)
      subst this
      cases ht
    · simp at hs; subst hs; exact ⟨hxG, Nat.zero_le _⟩
    · have := cnt_one G.n x hxG
      simpa using this
  have HC0 := hid hC0
  have HSO := hid hS0
  clear hB1 hrr hnew1 hC0 hS0 HEN
  go_wp2
  obtain ⟨W2, hW2⟩ : ∃ W2, W2 = w1.alloc (.cells #[.int .i64 (x : Int), .slice ua (G.pref x).length uc, .int .i64 0] 78) := ⟨_, rfl⟩
  have hC0 := HC0.out
  rw [← hW2] at hC0 ⊢
  clear hW2 HC0
  refine chainLoop w W2 M D HD.out HG.out fp SD RK seed rank HF.out HI.out RB R HR.out ⟨w.heap.size, w.heap.size + 1, w.heap.size + 2, w.heap.size + 3, w.heap.size + 4, w.heap.size + 5⟩ G HGn.out HGs.out HGr.out HGp.out hGO _ _ [(x, .slice ua (G.pref x).length uc, 0)] w1.heap.size 1 _ rfl hC0 HSO.out _ _ _ _ _ _ _ _ _ _ _ _ _ _ _ _ _ _ _ _ _ _ _ _ _ _ _ _ _ _ _ _ _ _ _ _ _ _ _ _ _ _ _ _ _ _ _ _ _ _ _ _ _ _ _ _ _ _ _ _ _ _ _ _ _ _ _ _ _ _ _ _ _ _ _ _ _ _ _ _ _ _ _ _ _ _ _ _ _ _ _ _ _ _ _ _ _ _ _ _ _ _ _ _ _ _ _ _ _ _ _ _ _ _ _ _ _ _ _ _ _ _ _ _ _ _ _ ?_
  intro z12 z13 z28 z29 z30 z31 z32 z33 z34 z35 z36 z37 z38 z39 z40 z41 z42 z43 z44 z45 z46 z47 z48 z49 z50 z51 z52 z53 z54 z55 z56 z57 z58 z59 z60 z61 z62 z63 z64 z65 z66 z67 z68 z69 z70 z71 z72 z73 z74 z75 z76 z77 z78 z79 z80 z81 z82 z83 z84 z85 z86 z87 z88 z89 z90 z91 z92 z93 z94 z95 z96 z97 z98 z99 z100 w3 E St g cap v hv hC3 hnl hlen hres
  subst hv
  have HC3 := hid hC3
  clear hC3 hC0
  rcases hres with ⟨hSt, hF0⟩ | ⟨hSt, hF0⟩
  · subst hSt
    have HF0 := hid hF0
    clear hF0 hnl
    go_wp2
    go_ret
    refine ⟨_, rfl, HC3.out.below, ?_⟩
    rw [HF0.out]
    rfl
  · have hl0 : St.length ≠ 0 := fun e => hSt (List.length_eq_zero_iff.1 e)
    have t1 : ((St.length : Int) == 0) = false := beq_eq_false_iff_ne.2 (by omega)
    have t2 : decide (St.length = 0) = false := decide_eq_false hl0
    have t3 : (St.length == 0) = false := beq_eq_false_iff_ne.2 hl0
    have m9 := run_make_row' (P := Ybaf.prog) 30 9 (.string ⟨#[]⟩) 16 Ybaf.underlying30 info9 rfl .i64 .i64 St.length (by omega) (by omega)
    have HF0 := hid hF0
    have hch := HC3.out
    have HL2 : Hid (∀ W, W = w3.alloc (.cells (madeCells #[.string ⟨#[]⟩] St.length) 9) → Below w.heap.size w W ∧ W.cell? ⟨w.heap.size, 0, none⟩ = some (.pointer (some ⟨M.gp, 0, none⟩)) ∧ W.ownsRow (w.heap.size + 5) 78 3 (.slice (some ⟨g, 0, none⟩) St.length cap) St.length (scs St) ∧ W.rowIs w3.heap.size 9 St.length (fun _ => .string ⟨#[]⟩) ∧ w.heap.size ≠ w3.heap.size ∧ g ≠ w3.heap.size ∧ w.heap.size ≤ w3.heap.size) := hid (fun W hW => by
      subst hW
      have hbz := hch.below
      have h0l := blk_lt hch.hg
      have hgl := (hch.own.lt g rfl).2
      refine ⟨hbz.alloc hbz.size _, ?_, hch.own.alloc _, made_row (blk_alloc_new _ _), ?_, by omega, hbz.size⟩
      · have h5 : w3.cell? ⟨w.heap.size, 0, none⟩ = some (.pointer (some ⟨M.gp, 0, none⟩)) := by simp [World.cell?, hch.hg]
        rw [World.cell?_alloc_lt _ _ _ (lt_of_cell h5)]; exact h5
      · have h6 : w.heap.size < w3.heap.size := h0l
        omega)
    have HEN2 : Hid (∀ s ∈ St, ∃ a n c, s.2.1 = .slice a n c) := hid (fun s hs => by obtain ⟨a, c, e, _⟩ := hch.ent s hs; exact ⟨a, _, c, e⟩)
    clear hch hF0 hl0
    go_wp2
    obtain ⟨W4, hW4⟩ : ∃ W4, W4 = w3.alloc (.cells (madeCells #[.string ⟨#[]⟩] St.length) 9) := ⟨_, rfl⟩
    obtain ⟨y1, y2, y3, y4, y5, y6, y7⟩ := HL2.out W4 hW4
    rw [← hW4]
    clear HL2 hW4 m9 t1 t2 t3
    refine chainLoop2 w W4 M D HD.out HG.out y1 w.heap.size y2 g cap St (fun s hs => ⟨hnl s hs, by obtain ⟨a, n, c, e⟩ := HEN2.out s hs; rw [e]; rfl⟩) HEN2.out hlen (w.heap.size + 5) y3 w3.heap.size y4 y7 y5 y6 _ _ _ _ _ _ _ _ _ _ _ _ _ _ _ _ _ _ _ _ _ _ _ _ _ _ _ _ _ _ _ _ _ _ _ _ _ _ _ _ _ _ _ _ _ _ _ _ _ _ _ _ _ _ _ _ _ _ _ _ _ _ _ _ _ _ _ _ _ _ _ _ _ _ _ _ _ _ _ _ _ _ _ _ _ _ _ _ _ _ _ _ _ _ _ _ _ _ _ _ _ _ _ _ _ _ _ _ _ _ _ _ _ _ _ _ _ _ _ _ _ _ _ _ _ _ _ ?_
    intro y15 y16 y109 y110 y111 y112 y113 y114 y115 y116 y117 y118 y119 y120 y121 y122 y123 y124 y125 y126 y127 y128 y129 y130 w5 hB5 hc5
    have HB5 := hid hB5
    have HC5 := hid hc5
    clear hB5 hc5 y1 y2 y3 y4 y5 y6 y7
    go_wp2
    go_ret
    refine ⟨_, rfl, HB5.out, ?_⟩
    rw [HF0.out]
    refine ⟨⟨w3.heap.size, by simp, fun j hj => HC5.out j (by simpa using hj)⟩, by simpa using hSt⟩

end Go.Proofs.YbulkectmFmt.A
