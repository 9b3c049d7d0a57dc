import Derived.Test.YbulkectmFmtAPick
import Derived.Maps.OwnSet
namespace Go.Proofs.YbulkectmFmt.A
set_option linter.unusedVariables false
set_option linter.unusedSimpArgs false
open Go.RowKit Go.Deep

/-- The graph, plainly. -/
structure GD where
  n : Nat
  m : Nat
  src : Nat → Nat
  dst : Nat → Nat
  q : Nat → Nat
  wt : Nat → Nat
structure GD.Ok (D : GD) : Prop where
  hn : D.n ≤ 300
  hm : D.m ≤ 2048
  sl : ∀ j, j < D.m → D.src j < D.n
  dl : ∀ j, j < D.m → D.dst j < D.n
  ql : ∀ j, j < D.m → 1 ≤ D.q j ∧ D.q j ≤ 4
  un : ∀ i j, i < D.m → j < D.m → D.src i = D.src j → D.dst i = D.dst j → i = j
  wl : ∀ v, v < D.n → 1 ≤ D.wt v ∧ D.wt v ≤ 3
def inL (D : GD) (v : Nat) : List Nat := (List.range D.m).filter fun e => D.dst e == v
def outL (D : GD) (u : Nat) : List Nat := (List.range D.m).filter fun e => D.src e == u
theorem mem_inL {D : GD} {v e : Nat} : e ∈ inL D v ↔ e < D.m ∧ D.dst e = v := by simp [inL]
theorem mem_outL {D : GD} {v e : Nat} : e ∈ outL D v ↔ e < D.m ∧ D.src e = v := by simp [outL]
theorem inL_len (D : GD) (v : Nat) : (inL D v).length ≤ D.m := by
  have := List.length_filter_le (fun e => D.dst e == v) (List.range D.m)
  simpa [inL] using this
theorem outL_len (D : GD) (v : Nat) : (outL D v).length ≤ D.m := by
  have := List.length_filter_le (fun e => D.src e == v) (List.range D.m)
  simpa [outL] using this

/-- An edge that is accepted once nothing fires any more. -/
def okE (D : GD) (seed : Nat → Bool) (rank : Nat → Int) (e : Nat) : Bool := decide (0 ≤ rank (D.src e)) && decide (0 ≤ rank (D.dst e)) && !seed (D.dst e) && decide (2 ≤ D.q e)

/-- A value that is a slice of 'len' cells: what they hold. -/
def Row (w : World) (v : Value) (len : Nat) (f : Nat → Value) : Prop :=
  ∃ a c, v = .slice a len c ∧ ∀ i, i < len → ∃ b off, a = some ⟨b, off, none⟩ ∧ ∀ j, j < len → w.cell? ⟨b, off + j, none⟩ = some (f j)
theorem Row.keep {w w' : World} {v : Value} {len : Nat} {f : Nat → Value} (h : Row w v len f) (hb : Below w.heap.size w w') : Row w' v len f := by
  obtain ⟨a, c, rfl, h⟩ := h
  refine ⟨a, c, rfl, fun i hi => ?_⟩
  obtain ⟨b, off, e, hh⟩ := h i hi
  exact ⟨b, off, e, fun j hj => cell_old hb (hh j hj)⟩
theorem Row.congr {w : World} {v : Value} {len : Nat} {f g : Nat → Value} (h : Row w v len f) (e : ∀ i, i < len → f i = g i) : Row w v len g := by
  obtain ⟨a, c, rfl, h⟩ := h
  refine ⟨a, c, rfl, fun i hi => ?_⟩
  obtain ⟨b, off, ea, hh⟩ := h i hi
  exact ⟨b, off, ea, fun j hj => by rw [← e j hj]; exact hh j hj⟩
theorem Row.of_own {w : World} {base : Nat} {e : TypeId} {v : Value} {n : Nat} {xs : List Value} (h : w.ownsRow base e 1 v n xs) : Row w v n (fun j => xs.getD j undef) := by
  rcases h.2 with ⟨rfl, rfl⟩ | ⟨g, cap, cur, rfl, _⟩
  · exact ⟨none, 0, rfl, fun i hi => absurd hi (by omega)⟩
  · refine ⟨_, _, rfl, fun i hi => ⟨g, 0, rfl, fun j hj => ?_⟩⟩
    have hl := h.1
    rw [Nat.zero_add, h.cellAt j (by omega)]
    show xs[j]? = some (xs.getD j undef)
    rw [List.getD_eq_getElem?_getD, List.getElem?_eq_getElem (by omega)]
    rfl

/-- Where the graph lies. -/
structure GM where
  gp : Nat
  NB : Nat
  SB : Nat
  DB : Nat
  IB : Nat
  OB : Nat
  mb : Nat
  ea : Option Addr
  ec : Nat
  inV : Nat → Value
  outV : Nat → Value
  DM : DataW Unit

def ints (l : List Nat) (j : Nat) : Value := .int .i64 ((l.getD j 0 : Nat) : Int)

/-- The graph in memory. -/
structure Gr (w : World) (M : GM) (D : GD) : Prop where
  c1 : w.cell? ⟨M.gp, 1, none⟩ = some (.slice (some ⟨M.NB, 0, none⟩) D.n D.n)
  c2 : w.cell? ⟨M.gp, 2, none⟩ = some (.slice M.ea D.m M.ec)
  c3 : w.cell? ⟨M.gp, 3, none⟩ = some (.map (some M.mb))
  c4 : w.cell? ⟨M.gp, 4, none⟩ = some (.slice (some ⟨M.SB, 0, none⟩) D.m D.m)
  c5 : w.cell? ⟨M.gp, 5, none⟩ = some (.slice (some ⟨M.DB, 0, none⟩) D.m D.m)
  c6 : w.cell? ⟨M.gp, 6, none⟩ = some (.slice (some ⟨M.IB, 0, none⟩) D.n D.n)
  c7 : w.cell? ⟨M.gp, 7, none⟩ = some (.slice (some ⟨M.OB, 0, none⟩) D.n D.n)
  nid : ∀ i, i < D.n → w.cell? ⟨M.NB, i * 12, none⟩ = some (.string (idStr i))
  nwt : ∀ i, i < D.n → w.cell? ⟨M.NB, i * 12 + 2, none⟩ = some (.int .i64 ((D.wt i : Nat) : Int))
  edg : ∀ j, j < D.m → ∃ eb, M.ea = some ⟨eb, 0, none⟩ ∧ ∀ i, i < D.m → w.cell? ⟨eb, i * 3, none⟩ = some (.string (idStr (D.src i))) ∧ w.cell? ⟨eb, i * 3 + 1, none⟩ = some (.string (idStr (D.dst i))) ∧ w.cell? ⟨eb, i * 3 + 2, none⟩ = some (fl (D.q i))
  sr : ∀ j, j < D.m → w.cell? ⟨M.SB, j, none⟩ = some (.int .i64 ((D.src j : Nat) : Int))
  ds : ∀ j, j < D.m → w.cell? ⟨M.DB, j, none⟩ = some (.int .i64 ((D.dst j : Nat) : Int))
  inn : ∀ v, v < D.n → w.cell? ⟨M.IB, v, none⟩ = some (M.inV v) ∧ Row w (M.inV v) (inL D v).length (ints (inL D v))
  out : ∀ v, v < D.n → w.cell? ⟨M.OB, v, none⟩ = some (M.outV v) ∧ Row w (M.outV v) (outL D v).length (ints (outL D v))
  idx : w.ownsMap Ybaf.prog 9 (plainElem Ybaf.prog 3) M.mb D.n M.DM

theorem Gr.keep {w w' : World} {M : GM} {D : GD} (h : Gr w M D) (hb : Below w.heap.size w w') : Gr w' M D :=
  ⟨cell_old hb h.c1, cell_old hb h.c2, cell_old hb h.c3, cell_old hb h.c4, cell_old hb h.c5, cell_old hb h.c6, cell_old hb h.c7, fun i hi => cell_old hb (h.nid i hi), fun i hi => cell_old hb (h.nwt i hi),
   fun j hj => by obtain ⟨eb, e, hh⟩ := h.edg j hj; exact ⟨eb, e, fun i hi => ⟨cell_old hb (hh i hi).1, cell_old hb (hh i hi).2.1, cell_old hb (hh i hi).2.2⟩⟩,
   fun j hj => cell_old hb (h.sr j hj), fun j hj => cell_old hb (h.ds j hj), fun v hv => ⟨cell_old hb (h.inn v hv).1, (h.inn v hv).2.keep hb⟩, fun v hv => ⟨cell_old hb (h.out v hv).1, (h.out v hv).2.keep hb⟩,
   h.idx.kept (row := none) ⟨hb.os, hb.tape, hb.output, hb.size, fun k hk _ => hb.block k hk⟩ (by simp)⟩

/-- What a propagation left. -/
structure Fir (w : World) (fp SD RK n : Nat) (seed : Nat → Bool) (rank : Nat → Int) : Prop where
  c0 : w.cell? ⟨fp, 0, none⟩ = some (.float .f64 4602678819172646912)
  c1 : w.cell? ⟨fp, 1, none⟩ = some (.slice (some ⟨SD, 0, none⟩) n n)
  c2 : w.cell? ⟨fp, 2, none⟩ = some (.slice (some ⟨RK, 0, none⟩) n n)
  sd : ∀ i, i < n → w.cell? ⟨SD, i, none⟩ = some (.bool (seed i))
  rk : ∀ i, i < n → w.cell? ⟨RK, i, none⟩ = some (.int .i64 (rank i))
theorem Fir.keep {w w' : World} {fp SD RK n : Nat} {seed : Nat → Bool} {rank : Nat → Int} (h : Fir w fp SD RK n seed rank) (hb : Below w.heap.size w w') : Fir w' fp SD RK n seed rank :=
  ⟨cell_old hb h.c0, cell_old hb h.c1, cell_old hb h.c2, fun i hi => cell_old hb (h.sd i hi), fun i hi => cell_old hb (h.rk i hi)⟩

attribute [local go_sem ↓] toBo41

set_option maxRecDepth 100000 in
set_option maxHeartbeats 2000000 in
/-- accepted. -/
theorem accepted_any (w : World) (M : GM) (D : GD) (hD : D.Ok) (hG : Gr w M D) (fp SD RK : Nat) (seed : Nat → Bool) (rank : Nat → Int) (hF : Fir w fp SD RK D.n seed rank) (e : Nat) (he : e < D.m) :
    Calls Ybaf.prog 18 #[.pointer (some ⟨M.gp, 0, none⟩), .pointer (some ⟨fp, 0, none⟩), .int .i64 (e : Int)] w fun r w' => r = .returned (.bool (okE D seed rank e)) ∧ ∃ k, w' = w.drewN k := by
  obtain ⟨eb, hea, hee⟩ := hG.edg e he
  have g2 := hG.c2
  rw [hea] at g2
  have g4 := hG.c4
  have g5 := hG.c5
  have f0 := hF.c0
  have f1 := hF.c1
  have f2 := hF.c2
  have x1 := hG.sr e he
  have x2 := hG.ds e he
  have x3 := (hee e he).2.2
  have r1 := hF.rk (D.src e) (hD.sl e he)
  have r2 := hF.rk (D.dst e) (hD.dl e he)
  have r3 := hF.sd (D.dst e) (hD.dl e he)
  have hs := hD.sl e he
  have hd := hD.dl e he
  have hq := hD.ql e he
  have b1 := fun d => fl_geq2 (D.q e) hq.1 hq.2 (w.drewN d)
  obtain ⟨gp, hgp⟩ : ∃ gp, gp = M.gp := ⟨_, rfl⟩
  obtain ⟨s, es⟩ : ∃ s, s = D.src e := ⟨_, rfl⟩
  obtain ⟨t, et⟩ : ∃ t, t = D.dst e := ⟨_, rfl⟩
  have HOK := hid (show okE D seed rank e = (decide (0 ≤ rank s) && decide (0 ≤ rank t) && !seed t && decide (2 ≤ D.q e)) by rw [es, et]; rfl)
  rw [← hgp] at g2 g4 g5 ⊢
  rw [← es] at x1 r1 hs
  rw [← et] at x2 r2 r3 hd
  obtain ⟨SB, hSB⟩ : ∃ SB, SB = M.SB := ⟨_, rfl⟩
  obtain ⟨DB, hDB⟩ : ∃ DB, DB = M.DB := ⟨_, rfl⟩
  obtain ⟨m, hm⟩ : ∃ m, m = D.m := ⟨_, rfl⟩
  obtain ⟨n, hn⟩ : ∃ n, n = D.n := ⟨_, rfl⟩
  obtain ⟨q, hq'⟩ : ∃ q, q = D.q e := ⟨_, rfl⟩
  obtain ⟨rs, hrs⟩ : ∃ r, r = rank s := ⟨_, rfl⟩
  obtain ⟨rt, hrt⟩ : ∃ r, r = rank t := ⟨_, rfl⟩
  obtain ⟨sb, hsb⟩ : ∃ r, r = seed t := ⟨_, rfl⟩
  obtain ⟨ec, hec⟩ : ∃ r, r = M.ec := ⟨_, rfl⟩
  rw [← hm] at g2 g4 g5 he
  rw [← hec] at g2
  rw [← hSB] at g4 x1
  rw [← hDB] at g5 x2
  rw [← hn] at f1 f2 hs hd
  rw [← hq'] at x3 b1 HOK
  rw [← hrs] at r1 HOK
  rw [← hrt] at r2 HOK
  rw [← hsb] at r3 HOK
  clear hgp es et hSB hDB hm hn hq' hrs hrt hsb hec hG hF hD hee hea hq
  have i0 : (0 : Int) ≤ (e : Int) := by omega
  have i1 : (e : Int) < (m : Int) := by omega
  have s0 : (0 : Int) ≤ (s : Int) := by omega
  have s1 : (s : Int) < (n : Int) := by omega
  have t0 : (0 : Int) ≤ (t : Int) := by omega
  have t1 : (t : Int) < (n : Int) := by omega
  by_cases k1 : 0 ≤ rs
  · have k1' : decide (0 ≤ rs) = true := decide_eq_true k1
    by_cases k2 : 0 ≤ rt
    · have k2' : decide (0 ≤ rt) = true := decide_eq_true k2
      cases sb with
      | true =>
        go_enter Ybaf.func18, Ybaf.ntmps18
        go_wp2
        go_quiet (fail)
        go_wp2
        go_ret
        exact ⟨ret_bool (by rw [HOK.out]; simp), _, rfl⟩
      | false =>
        go_enter Ybaf.func18, Ybaf.ntmps18
        go_wp2
        go_quiet (fail)
        go_wp2
        go_ret
        exact ⟨ret_bool (by rw [HOK.out]; simp [k1, k2]), _, rfl⟩
    · have k2' : decide (0 ≤ rt) = false := decide_eq_false k2
      have K2 := hid k2
      go_enter Ybaf.func18, Ybaf.ntmps18
      go_wp2
      go_quiet (fail)
      go_wp2
      go_ret
      exact ⟨ret_bool (by rw [HOK.out, decide_eq_false (show ¬ 0 ≤ rt by have := K2.out; omega)]; simp), _, rfl⟩
  · have k1' : decide (0 ≤ rs) = false := decide_eq_false k1
    have K1 := hid k1
    go_enter Ybaf.func18, Ybaf.ntmps18
    go_wp2
    go_quiet (fail)
    go_wp2
    go_ret
    exact ⟨ret_bool (by rw [HOK.out, decide_eq_false (show ¬ 0 ≤ rs by have := K1.out; omega)]; simp), _, rfl⟩

end Go.Proofs.YbulkectmFmt.A
