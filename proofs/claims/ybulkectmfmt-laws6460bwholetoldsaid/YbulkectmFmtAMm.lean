import Derived.Test.YbulkectmFmtAObs
namespace Go.Proofs.YbulkectmFmt.A
set_option linter.unusedVariables false
set_option linter.unusedSimpArgs false
open Go.RowKit Go.Deep

/-- Where the law's own model lies. -/
structure MP where
  mp : Nat
  RK : Nat
  SD : Nat
  RE : Nat
  EN : Nat
  sb : Option Addr
  sc : Nat
  db : Option Addr
  dc : Nat
  wb : Option Addr
  wc : Nat

/-- The law's own model in memory (all but 'entered' and what it holds). -/
structure Mm (w : World) (P : MP) (D : GD) (seed R : Nat → Bool) (rank : Nat → Int) : Prop where
  c0 : w.cell? ⟨P.mp, 0, none⟩ = some (.slice P.sb D.m P.sc)
  c1 : w.cell? ⟨P.mp, 1, none⟩ = some (.slice P.db D.m P.dc)
  c2 : w.cell? ⟨P.mp, 2, none⟩ = some (.slice P.wb D.m P.wc)
  c3 : w.cell? ⟨P.mp, 3, none⟩ = some (.slice (some ⟨P.RK, 0, none⟩) D.n D.n)
  c4 : w.cell? ⟨P.mp, 4, none⟩ = some (.slice (some ⟨P.SD, 0, none⟩) D.n D.n)
  c5 : w.cell? ⟨P.mp, 5, none⟩ = some (.slice (some ⟨P.RE, 0, none⟩) D.n D.n)
  c6 : w.cell? ⟨P.mp, 6, none⟩ = some (.slice (some ⟨P.EN, 0, none⟩) D.n D.n)
  sr : ∀ j, j < D.m → ∃ b, P.sb = some ⟨b, 0, none⟩ ∧ b ≠ P.EN ∧ ∀ i, i < D.m → w.cell? ⟨b, i, none⟩ = some (.int .i64 ((D.src i : Nat) : Int))
  ds : ∀ j, j < D.m → ∃ b, P.db = some ⟨b, 0, none⟩ ∧ b ≠ P.EN ∧ ∀ i, i < D.m → w.cell? ⟨b, i, none⟩ = some (.int .i64 ((D.dst i : Nat) : Int))
  wt : ∀ j, j < D.m → ∃ b, P.wb = some ⟨b, 0, none⟩ ∧ b ≠ P.EN ∧ ∀ i, i < D.m → w.cell? ⟨b, i, none⟩ = some (fl (D.q i))
  rk : ∀ i, i < D.n → w.cell? ⟨P.RK, i, none⟩ = some (.int .i64 (rank i))
  sd : ∀ i, i < D.n → w.cell? ⟨P.SD, i, none⟩ = some (.bool (seed i))
  re : ∀ i, i < D.n → w.cell? ⟨P.RE, i, none⟩ = some (.bool (R i))
  n1 : P.mp ≠ P.EN
  n2 : P.RK ≠ P.EN
  n3 : P.SD ≠ P.EN
  n4 : P.RE ≠ P.EN

/-- A cell outside one row. -/
theorem cell_grown {w w' : World} {row : Option Nat} (hg : w.grownBy w' row) {b o : Nat} {v : Value} (hne : some b ≠ row) (h : w.cell? ⟨b, o, none⟩ = some v) : w'.cell? ⟨b, o, none⟩ = some v := by
  have h1 := hg.block b (lt_of_cell h) hne
  rw [World.cell?_of_block (a := ⟨b, o, none⟩) h1]; exact h
theorem Mm.keep {w w' : World} {P : MP} {D : GD} {seed R : Nat → Bool} {rank : Nat → Int} (h : Mm w P D seed R rank) (hg : w.grownBy w' (some P.EN)) : Mm w' P D seed R rank := by
  have ne : ∀ {b : Nat}, b ≠ P.EN → some b ≠ some P.EN := fun h e => by injection e with e; exact h e
  exact ⟨cell_grown hg (ne h.n1) h.c0, cell_grown hg (ne h.n1) h.c1, cell_grown hg (ne h.n1) h.c2, cell_grown hg (ne h.n1) h.c3, cell_grown hg (ne h.n1) h.c4, cell_grown hg (ne h.n1) h.c5, cell_grown hg (ne h.n1) h.c6,
    fun j hj => by obtain ⟨b, e, hb, hh⟩ := h.sr j hj; exact ⟨b, e, hb, fun i hi => cell_grown hg (ne hb) (hh i hi)⟩,
    fun j hj => by obtain ⟨b, e, hb, hh⟩ := h.ds j hj; exact ⟨b, e, hb, fun i hi => cell_grown hg (ne hb) (hh i hi)⟩,
    fun j hj => by obtain ⟨b, e, hb, hh⟩ := h.wt j hj; exact ⟨b, e, hb, fun i hi => cell_grown hg (ne hb) (hh i hi)⟩,
    fun i hi => cell_grown hg (ne h.n2) (h.rk i hi), fun i hi => cell_grown hg (ne h.n3) (h.sd i hi), fun i hi => cell_grown hg (ne h.n4) (h.re i hi), h.n1, h.n2, h.n3, h.n4⟩

attribute [local go_sem ↓] toBo41

set_option maxRecDepth 100000 in
set_option maxHeartbeats 4000000 in
/-- (m *zzs6460bm) ok. -/
theorem ok_any (w : World) (P : MP) (D : GD) (hD : D.Ok) (seed R : Nat → Bool) (rank : Nat → Int) (hM : Mm w P D seed R rank) (e : Nat) (he : e < D.m) :
    Calls Ybaf.prog 8 #[.pointer (some ⟨P.mp, 0, none⟩), .int .i64 (e : Int)] w fun r w' => r = .returned (.bool (okE D seed rank e)) ∧ ∃ k, w' = w.drewN k := by
  obtain ⟨sb, hsb, _, hsc⟩ := hM.sr e he
  obtain ⟨db, hdb, _, hdc⟩ := hM.ds e he
  obtain ⟨wb, hwb, _, hwc⟩ := hM.wt e he
  have g0 := hM.c0
  have g1 := hM.c1
  have g2 := hM.c2
  have g3 := hM.c3
  have g4 := hM.c4
  rw [hsb] at g0
  rw [hdb] at g1
  rw [hwb] at g2
  have x1 := hsc e he
  have x2 := hdc e he
  have x3 := hwc e he
  have r1 := hM.rk (D.src e) (hD.sl e he)
  have r2 := hM.rk (D.dst e) (hD.dl e he)
  have r3 := hM.sd (D.dst e) (hD.dl e he)
  have hs := hD.sl e he
  have hd := hD.dl e he
  have hq := hD.ql e he
  have b1 := fun d => fl_geq2 (D.q e) hq.1 hq.2 (w.drewN d)
  obtain ⟨mp, hmp⟩ : ∃ gp, gp = P.mp := ⟨_, rfl⟩
  obtain ⟨s, es⟩ : ∃ s, s = D.src e := ⟨_, rfl⟩
  obtain ⟨t, et⟩ : ∃ t, t = D.dst e := ⟨_, rfl⟩
  have HOK := hid (show okE D seed rank e = (decide (0 ≤ rank s) && decide (0 ≤ rank t) && !seed t && decide (2 ≤ D.q e)) by rw [es, et]; rfl)
  rw [← hmp] at g0 g1 g2 g3 g4 ⊢
  rw [← es] at x1 r1 hs
  rw [← et] at x2 r2 r3 hd
  obtain ⟨RK, hRK⟩ : ∃ SB, SB = P.RK := ⟨_, rfl⟩
  obtain ⟨SD, hSD⟩ : ∃ DB, DB = P.SD := ⟨_, rfl⟩
  obtain ⟨m, hm⟩ : ∃ m, m = D.m := ⟨_, rfl⟩
  obtain ⟨n, hn⟩ : ∃ n, n = D.n := ⟨_, rfl⟩
  obtain ⟨q, hq'⟩ : ∃ q, q = D.q e := ⟨_, rfl⟩
  obtain ⟨rs, hrs⟩ : ∃ r, r = rank s := ⟨_, rfl⟩
  obtain ⟨rt, hrt⟩ : ∃ r, r = rank t := ⟨_, rfl⟩
  obtain ⟨sd, hsd⟩ : ∃ r, r = seed t := ⟨_, rfl⟩
  rw [← hm] at g0 g1 g2 he
  rw [← hRK] at g3 r1 r2
  rw [← hSD] at g4 r3
  rw [← hn] at g3 g4 hs hd
  rw [← hq'] at x3 b1 HOK
  rw [← hrs] at r1 HOK
  rw [← hrt] at r2 HOK
  rw [← hsd] at r3 HOK
  clear hmp es et hRK hSD hm hn hq' hrs hrt hsd hM hD hsc hdc hwc hsb hdb hwb hq
  have i0 : (0 : Int) ≤ (e : Int) := by omega
  have i1 : (e : Int) < (m : Int) := by omega
  have s0 : (0 : Int) ≤ (s : Int) := by omega
  have s1 : (s : Int) < (n : Int) := by omega
  have t0 : (0 : Int) ≤ (t : Int) := by omega
  have t1 : (t : Int) < (n : Int) := by omega
  by_cases k1 : 0 ≤ rs
  · have k1' : decide (0 ≤ rs) = true := decide_eq_true k1
    by_cases k2 : 0 ≤ rt
    · have k2' : decide (0 ≤ rt) = true := decide_eq_true k2
      cases sd with
      | true =>
        go_enter Ybaf.func8, Ybaf.ntmps8
        go_wp2
        go_quiet (fail)
        go_wp2
        go_ret
        exact ⟨ret_bool (by rw [HOK.out]; simp), _, rfl⟩
      | false =>
        go_enter Ybaf.func8, Ybaf.ntmps8
        go_wp2
        go_quiet (fail)
        go_wp2
        go_ret
        exact ⟨ret_bool (by rw [HOK.out]; simp [k1, k2]), _, rfl⟩
    · have k2' : decide (0 ≤ rt) = false := decide_eq_false k2
      have K2 := hid k2
      go_enter Ybaf.func8, Ybaf.ntmps8
      go_wp2
      go_quiet (fail)
      go_wp2
      go_ret
      exact ⟨ret_bool (by rw [HOK.out, decide_eq_false (show ¬ 0 ≤ rt by have := K2.out; omega)]; simp), _, rfl⟩
  · have k1' : decide (0 ≤ rs) = false := decide_eq_false k1
    have K1 := hid k1
    go_enter Ybaf.func8, Ybaf.ntmps8
    go_wp2
    go_quiet (fail)
    go_wp2
    go_ret
    exact ⟨ret_bool (by rw [HOK.out, decide_eq_false (show ¬ 0 ≤ rs by have := K1.out; omega)]; simp), _, rfl⟩

set_option maxRecDepth 100000 in
set_option maxHeartbeats 4000000 in
/-- (m *zzs6460bm) better. -/
theorem better_any (w : World) (P : MP) (D : GD) (hD : D.Ok) (seed R : Nat → Bool) (rank : Nat → Int) (hM : Mm w P D seed R rank) (a b : Nat) (ha : a < D.m) (hb : b < D.m) :
    Calls Ybaf.prog 15 #[.pointer (some ⟨P.mp, 0, none⟩), .int .i64 (a : Int), .int .i64 (b : Int)] w fun r w' => r = .returned (.bool (ltE D rank a b)) ∧ ∃ k, w' = w.drewN k := by
  obtain ⟨sb, hsb, _, hsc⟩ := hM.sr a ha
  obtain ⟨wb, hwb, _, hwc⟩ := hM.wt a ha
  have g0 := hM.c0
  have g2 := hM.c2
  have g3 := hM.c3
  rw [hsb] at g0
  rw [hwb] at g2
  have x1 := hsc a ha
  have x2 := hsc b hb
  have x3 := hwc a ha
  have x4 := hwc b hb
  have r1 := hM.rk (D.src a) (hD.sl a ha)
  have r2 := hM.rk (D.src b) (hD.sl b hb)
  have hs := hD.sl a ha
  have hd := hD.sl b hb
  have hqa := hD.ql a ha
  have hqb := hD.ql b hb
  have b1 := fun W => fl_neq (D.q a) (D.q b) hqa.1 hqa.2 hqb.1 hqb.2 W
  have b2 := fun W => fl_gtr (D.q a) (D.q b) hqa.1 hqa.2 hqb.1 hqb.2 W
  have hg := fun x y W => eqg_fl .neq x y (D.q a) (D.q b) W
  have HLT := hid (ltE_iff D rank a b)
  obtain ⟨lt, hlt⟩ : ∃ lt, lt = ltE D rank a b := ⟨_, rfl⟩
  obtain ⟨mp, hmp⟩ : ∃ gp, gp = P.mp := ⟨_, rfl⟩
  obtain ⟨s, es⟩ : ∃ s, s = D.src a := ⟨_, rfl⟩
  obtain ⟨t, et⟩ : ∃ t, t = D.src b := ⟨_, rfl⟩
  obtain ⟨RK, hRK⟩ : ∃ SB, SB = P.RK := ⟨_, rfl⟩
  obtain ⟨m, hm⟩ : ∃ m, m = D.m := ⟨_, rfl⟩
  obtain ⟨n, hn⟩ : ∃ n, n = D.n := ⟨_, rfl⟩
  obtain ⟨qa, hqa'⟩ : ∃ q, q = D.q a := ⟨_, rfl⟩
  obtain ⟨qb, hqb'⟩ : ∃ q, q = D.q b := ⟨_, rfl⟩
  obtain ⟨rs, hrs⟩ : ∃ r, r = rank s := ⟨_, rfl⟩
  obtain ⟨rt, hrt⟩ : ∃ r, r = rank t := ⟨_, rfl⟩
  obtain ⟨fa, hfa⟩ : ∃ f, f = fl qa := ⟨_, rfl⟩
  obtain ⟨fb, hfb⟩ : ∃ f, f = fl qb := ⟨_, rfl⟩
  rw [← hmp] at g0 g2 g3 ⊢
  rw [← es] at x1 r1 hs HLT
  rw [← et] at x2 r2 hd HLT
  rw [← hm] at g0 g2 ha hb
  rw [← hRK] at g3 r1 r2
  rw [← hn] at g3 hs hd
  rw [← hqa', ← hqb'] at b1 b2 hg HLT
  rw [← hqa', ← hfa] at x3
  rw [← hqb', ← hfb] at x4
  rw [← hrs] at r1 HLT
  rw [← hrt] at r2 HLT
  rw [← hfa, ← hfb] at b1 b2 hg
  rw [← hlt] at HLT ⊢
  clear hmp es et hRK hm hn hqa' hqb' hrs hrt hfa hfb hM hD hsc hwc hsb hwb hqa hqb hlt
  have i0 : (0 : Int) ≤ (a : Int) := by omega
  have i1 : (a : Int) < (m : Int) := by omega
  have j0 : (0 : Int) ≤ (b : Int) := by omega
  have j1 : (b : Int) < (m : Int) := by omega
  have s0 : (0 : Int) ≤ (s : Int) := by omega
  have s1 : (s : Int) < (n : Int) := by omega
  have t0 : (0 : Int) ≤ (t : Int) := by omega
  have t1 : (t : Int) < (n : Int) := by omega
  by_cases k : qa = qb
  · have k1 : decide (qa ≠ qb) = false := decide_eq_false (fun h => h k)
    rw [k1] at b1
    have HR : Hid (decide (rs < rt) = lt) := hid (by
      have := HLT.out
      cases lt with
      | true => rw [decide_eq_true_iff]; have := this.1 rfl; omega
      | false => rw [decide_eq_false_iff_not]; intro h; have := this.2 (.inr ⟨k, h⟩); cases this)
    clear HLT k k1
    go_enter Ybaf.func15, Ybaf.ntmps15
    go_wp2
    go_quiet (fail)
    obtain ⟨n1, hn1⟩ : ∃ n1, n1 = nq := ⟨_, rfl⟩
    have HN1 := hid hn1
    obtain ⟨W2, hW2⟩ : ∃ W2, W2 = w.drewN nq := ⟨_, rfl⟩
    rw [← hW2]
    have hcw : ∀ p, W2.cell? p = w.cell? p := fun p => by rw [hW2]; rfl
    have HW2 := hid hW2
    clear hW2 hn1
    go_wp2
    go_quiet (fail)
    go_wp2
    go_ret
    exact ⟨ret_bool HR.out, n1 + nq, by rw [HW2.out, HN1.out, World.drewN_drewN]⟩
  · have k1 : decide (qa ≠ qb) = true := decide_eq_true k
    rw [k1] at b1
    have HR : Hid (decide (qb < qa) = lt) := hid (by
      have := HLT.out
      cases lt with
      | true => rw [decide_eq_true_iff]; have := this.1 rfl; omega
      | false => rw [decide_eq_false_iff_not]; intro h; have := this.2 (.inl h); cases this)
    clear HLT k k1
    go_enter Ybaf.func15, Ybaf.ntmps15
    go_wp2
    go_quiet (fail)
    obtain ⟨n1, hn1⟩ : ∃ n1, n1 = nq := ⟨_, rfl⟩
    have HN1 := hid hn1
    obtain ⟨W2, hW2⟩ : ∃ W2, W2 = w.drewN nq := ⟨_, rfl⟩
    rw [← hW2]
    have hcw : ∀ p, W2.cell? p = w.cell? p := fun p => by rw [hW2]; rfl
    have HW2 := hid hW2
    clear hW2 hn1
    go_wp2
    go_quiet (fail)
    go_wp2
    go_ret
    exact ⟨ret_bool HR.out, n1 + nq, by rw [HW2.out, HN1.out, World.drewN_drewN]⟩

end Go.Proofs.YbulkectmFmt.A
