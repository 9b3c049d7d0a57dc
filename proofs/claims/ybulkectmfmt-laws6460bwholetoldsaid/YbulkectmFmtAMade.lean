import Derived.Test.YbulkectmFmtAT2
import Derived.Test.YbulkectmFmtAL1
import Derived.Test.YbulkectmFmtAL4
import Derived.Laws.MakeOwn
namespace Go.Proofs.YbulkectmFmt.A
set_option linter.unusedVariables false
set_option linter.unusedSimpArgs false
open Go.RowKit Go.Deep

def nodeZ : Value := .agg #[.string ⟨#[]⟩, .string ⟨#[]⟩, .int .i64 0, .slice none 0 0, .string ⟨#[]⟩, .map none, .bool false, .string ⟨#[]⟩, .string ⟨#[]⟩, .pointer none, .string ⟨#[]⟩, .string ⟨#[]⟩]
theorem info36 : (Ybaf.prog.info? 36).map (fun i => (i.zero, i.size, i.bytes)) = some (some nodeZ, 12, 168) := by kernel_rfl
theorem info27 : (Ybaf.prog.info? 27).map (fun i => (i.zero, i.size, i.bytes)) = some (some (.slice none 0 0), 1, 24) := by kernel_rfl
theorem make26 (n : Nat) (hn : n ≤ 300) (w : World) : (Instr.makeSlice 26 (.int .i64 (n : Int)) (.int .i64 (n : Int))).run Ybaf.prog w = .ok (.slice (some ⟨w.heap.size, 0, none⟩) n n) (w.alloc (.cells (madeCells nodeZ.cells (n * 12)) 36)) := by
  obtain ⟨i, hi, hzz⟩ := Option.map_eq_some_iff.1 info36
  simp only [Prod.mk.injEq] at hzz
  obtain ⟨hz, hs, hb⟩ := hzz
  have hr := run_makeSlice (P := Ybaf.prog) (w := w) 26 36 i nodeZ Ybaf.underlying26 hi hz .i64 .i64 n n (by omega) (Int.le_refl _) (by rw [hs]; simp; omega) (by rw [hb]; omega) (by omega)
  simp only [Int.toNat_natCast, hs] at hr
  exact hr
theorem make28 (n : Nat) (hn : n ≤ 300) (w : World) : (Instr.makeMap 28 (some (.int .i64 (n : Int)))).run Ybaf.prog w = .ok (.map (some w.heap.size)) (w.alloc (.map #[] 0)) := by
  have h0 : ¬ ((n : Int) < 0) := by omega
  simp [Instr.makeMap, asInt, asIntOf, h0]
theorem there_made (w : World) (c : Array Value) (t : TypeId) (ob1 ob2 : Obj) : (((w.alloc (.cells c t)).alloc ob1).alloc ob2).there w.heap.size 0 c.size := fun j hj => by
  have hb : (((w.alloc (.cells c t)).alloc ob1).alloc ob2).heap[w.heap.size]? = some (.cells c t (0, 0)) := by
    rw [blk_alloc_lt _ _ _ (by simp only [nblk_alloc]; omega), blk_alloc_lt _ _ _ (by simp only [nblk_alloc]; omega)]
    exact blk_alloc_new _ _
  rw [Nat.zero_add]
  constructor
  · simp [World.cell?, hb, hj]
  · simp [World.frozen?, hb]
/-- The nodes as they begin. -/
theorem nds_start {w W : World} {n : Nat} (wt : Nat → Nat) (hW : W = ((w.alloc (.cells (madeCells nodeZ.cells (n * 12)) 36)).alloc (.cells (madeCells #[.int .i64 0] n) 3)).alloc (.map #[] 0)) : Below w.heap.size w W ∧ Nds w.heap.size W W n w.heap.size (w.heap.size + 1) (w.heap.size + 2) wt 0 (.map []) := by
  subst hW
  have e1 : (w.alloc (.cells (madeCells nodeZ.cells (n * 12)) 36)).heap.size = w.heap.size + 1 := nblk_alloc _ _
  have e2 : ((w.alloc (.cells (madeCells nodeZ.cells (n * 12)) 36)).alloc (.cells (madeCells #[.int .i64 0] n) 3)).heap.size = w.heap.size + 2 := by rw [nblk_alloc, e1]
  have b1 : Below w.heap.size w (w.alloc (.cells (madeCells nodeZ.cells (n * 12)) 36)) := (Below.refl _ _).alloc (Nat.le_refl _) _
  refine ⟨((b1).alloc (by omega) _).alloc (by omega) _, Below.refl _ _, ?_, ?_, fun i hi => absurd hi (by omega), fun i hi => absurd hi (by omega), ?_, ?_, ?_, ⟨Maps.isMap_empty, fun i hi => absurd hi (by omega), rfl⟩⟩
  · have := there_made w (madeCells nodeZ.cells (n * 12)) 36 (.cells (madeCells #[.int .i64 0] n) 3) (.map #[] 0)
    rw [size_madeCells] at this
    exact this
  · rw [nblk_alloc, e2]; omega
  · have r := World.rowIs_made (w.alloc (.cells (madeCells nodeZ.cells (n * 12)) 36)) (.int .i64 0) n 3
    rw [e1] at r
    refine (r.alloc _).congr fun j _ => ?_
    unfold wAt; rw [if_neg (by omega)]
  · have r := World.ownsMap_made (H := Unit) ((w.alloc (.cells (madeCells nodeZ.cells (n * 12)) 36)).alloc (.cells (madeCells #[.int .i64 0] n) 3)) Ybaf.prog 9 (plainElem Ybaf.prog 3)
    rw [e2] at r
    exact r
  · rw [nblk_alloc, e2]; omega
/-- The lists of edges as they begin. -/
theorem fam_start {w W : World} (D : GD) (hW : W = (((w.alloc (.cells (madeCells #[.int .i64 0] D.m) 3)).alloc (.cells (madeCells #[.int .i64 0] D.m) 3)).alloc (.cells (madeCells #[.slice none 0 0] D.n) 27)).alloc (.cells (madeCells #[.slice none 0 0] D.n) 27)) :
    Below w.heap.size w W ∧ FamP w.heap.size (w.heap.size + 4) w.heap.size (w.heap.size + 1) (w.heap.size + 2) (w.heap.size + 3) ∧ Fam w.heap.size (w.heap.size + 4) W W D w.heap.size (w.heap.size + 1) (w.heap.size + 2) (w.heap.size + 3) (fun _ => .slice none 0 0) (lsK D 0) 0 := by
  subst hW
  obtain ⟨o1, ho1⟩ : ∃ o, o = Obj.cells (madeCells #[.int .i64 0] D.m) 3 := ⟨_, rfl⟩
  obtain ⟨o2, ho2⟩ : ∃ o, o = Obj.cells (madeCells #[.slice none 0 0] D.n) 27 := ⟨_, rfl⟩
  have e1 : (w.alloc o1).heap.size = w.heap.size + 1 := nblk_alloc _ _
  have e2 : ((w.alloc o1).alloc o1).heap.size = w.heap.size + 2 := by rw [nblk_alloc, e1]
  have e3 : (((w.alloc o1).alloc o1).alloc o2).heap.size = w.heap.size + 3 := by rw [nblk_alloc, e2]
  have e4 : ((((w.alloc o1).alloc o1).alloc o2).alloc o2).heap.size = w.heap.size + 4 := by rw [nblk_alloc, e3]
  rw [← ho1, ← ho2]
  have b1 : Below w.heap.size w (w.alloc o1) := (Below.refl _ _).alloc (Nat.le_refl _) _
  refine ⟨((b1.alloc (by omega) _).alloc (by omega) _).alloc (by omega) _, ⟨by omega, by omega, by omega, by omega, by omega, by omega, by omega, by omega, by omega, by omega, by omega, by omega, by omega, by omega⟩, ⟨Below.refl _ _, by omega, ?_, ?_, ?_, ?_, ⟨fun p hp => ?_, fun p q _ _ _ => .inl rfl⟩⟩⟩
  · have r := World.rowIs_made w (.int .i64 0) D.m 3
    rw [← ho1] at r
    refine (((r.alloc o1).alloc o2).alloc o2).congr fun j _ => ?_
    unfold gAt; rw [if_neg (by omega)]
  · have r := World.rowIs_made (w.alloc o1) (.int .i64 0) D.m 3
    rw [e1, ← ho1] at r
    refine ((r.alloc o2).alloc o2).congr fun j _ => ?_
    unfold gAt; rw [if_neg (by omega)]
  · have r := World.rowIs_made ((w.alloc o1).alloc o1) (.slice none 0 0) D.n 27
    rw [e2, ← ho2] at r
    exact r.alloc o2
  · have r := World.rowIs_made (((w.alloc o1).alloc o1).alloc o2) (.slice none 0 0) D.n 27
    rw [e3, ← ho2] at r
    exact r
  · exact World.ownsRow_nil _ _ _ _
/-- The edges' rows as the law reads them. -/
theorem ed_rows {w : World} {B n : Nat} {E : List Ed} {wt : Nat → Nat} {ea sa da wa : Option Addr} {ec sc dc wc : Nat} (h : EdF w B E (.slice ea E.length ec) (.slice sa E.length sc) (.slice da E.length dc) (.slice wa E.length wc)) :
    (∀ j, j < E.length → ∃ b, sa = some ⟨b, 0, none⟩ ∧ b < w.heap.size ∧ ∀ i, i < E.length → w.cell? ⟨b, i, none⟩ = some (.int .i64 (((mkD n E wt).src i : Nat) : Int))) ∧
    (∀ j, j < E.length → ∃ b, da = some ⟨b, 0, none⟩ ∧ b < w.heap.size ∧ ∀ i, i < E.length → w.cell? ⟨b, i, none⟩ = some (.int .i64 (((mkD n E wt).dst i : Nat) : Int))) ∧
    (∀ j, j < E.length → ∃ b, wa = some ⟨b, 0, none⟩ ∧ b < w.heap.size ∧ ∀ i, i < E.length → w.cell? ⟨b, i, none⟩ = some (fl ((mkD n E wt).q i))) ∧
    (∀ j, j < E.length → ∃ b, ea = some ⟨b, 0, none⟩ ∧ ∀ i, i < E.length → w.cell? ⟨b, i * 3, none⟩ = some (.string (idStr ((mkD n E wt).src i))) ∧ w.cell? ⟨b, i * 3 + 1, none⟩ = some (.string (idStr ((mkD n E wt).dst i))) ∧ w.cell? ⟨b, i * 3 + 2, none⟩ = some (fl ((mkD n E wt).q i))) ∧
    (∀ b, sa = some ⟨b, 0, none⟩ → b < w.heap.size) ∧ (∀ b, da = some ⟨b, 0, none⟩ → b < w.heap.size) ∧ (∀ b, wa = some ⟨b, 0, none⟩ → b < w.heap.size) := by
  have o0 : w.ownsRow B 44 3 (.slice ea E.length ec) E.length (ecs E) := h.own 0 (by decide)
  have o1 : w.ownsRow B 3 1 (.slice sa E.length sc) E.length (iv (E.map (·.1))) := h.own 1 (by decide)
  have o2 : w.ownsRow B 3 1 (.slice da E.length dc) E.length (iv (E.map (·.2.1))) := h.own 2 (by decide)
  have o3 : w.ownsRow B 41 1 (.slice wa E.length wc) E.length (E.map fun e => fl e.2.2) := h.own 3 (by decide)
  refine ⟨fun j hj => ?_, fun j hj => ?_, fun j hj => ?_, fun j hj => ?_, fun b e => ?_, fun b e => ?_, fun b e => ?_⟩
  · obtain ⟨b, e, _, hl, hh⟩ := own_at o1 (by omega)
    refine ⟨b, e, hl, fun i hi => ?_⟩
    rw [hh i (by omega), iv_get (by simpa using hi)]
    show _ = some (Value.int .i64 (((E.getD i (0, 0, 1)).1 : Nat) : Int))
    rw [getD_ed hi]; simp
  · obtain ⟨b, e, _, hl, hh⟩ := own_at o2 (by omega)
    refine ⟨b, e, hl, fun i hi => ?_⟩
    rw [hh i (by omega), iv_get (by simpa using hi)]
    show _ = some (Value.int .i64 (((E.getD i (0, 0, 1)).2.1 : Nat) : Int))
    rw [getD_ed hi]; simp
  · obtain ⟨b, e, _, hl, hh⟩ := own_at o3 (by omega)
    refine ⟨b, e, hl, fun i hi => ?_⟩
    rw [hh i (by omega), List.getElem?_map, List.getElem?_eq_getElem hi]
    show _ = some (fl (E.getD i (0, 0, 1)).2.2)
    rw [getD_ed hi]; rfl
  · obtain ⟨b, e, _, hl, hh⟩ := own_at o0 (by omega)
    refine ⟨b, e, fun i hi => ?_⟩
    have hsplit : E = E.take i ++ E[i] :: E.drop (i + 1) := by rw [← List.drop_eq_getElem_cons hi, List.take_append_drop]
    have get : ∀ q, q < 3 → w.cell? ⟨b, i * 3 + q, none⟩ = (ec3 E[i])[q]? := fun q hq => by
      rw [hh (i * 3 + q) (by omega)]
      have hlen : ∀ l : List Ed, (ecs l).length = l.length * 3 := fun l => by
        induction l with
        | nil => rfl
        | cons a l ih => unfold ecs at ih ⊢; rw [List.flatMap_cons, List.length_append, ih, List.length_cons]; show 3 + _ = _; omega
      have e1 : ecs E = ecs (E.take i) ++ (ec3 E[i] ++ ecs (E.drop (i + 1))) := by
        conv => lhs; rw [hsplit]
        unfold ecs
        rw [List.flatMap_append, List.flatMap_cons]
      rw [e1, List.getElem?_append_right (by rw [hlen, List.length_take, Nat.min_eq_left (by omega)]; omega), hlen, List.length_take, Nat.min_eq_left (by omega), show i * 3 + q - i * 3 = q by omega, List.getElem?_append_left (by show q < 3; exact hq)]
    refine ⟨?_, ?_, ?_⟩
    · show _ = some (Value.string (idStr (E.getD i (0, 0, 1)).1))
      rw [getD_ed hi]; exact get 0 (by omega)
    · show _ = some (Value.string (idStr (E.getD i (0, 0, 1)).2.1))
      rw [getD_ed hi]; exact get 1 (by omega)
    · show _ = some (fl (E.getD i (0, 0, 1)).2.2)
      rw [getD_ed hi]; exact get 2 (by omega)
  · exact (o1.lt b (by rw [e]; rfl)).2
  · exact (o2.lt b (by rw [e]; rfl)).2
  · exact (o3.lt b (by rw [e]; rfl)).2
def lawS : ByteArray := ⟨#[108, 97, 119]⟩
/-- The graph stands. -/
theorem gr_of {B1 : Nat} {wa0 w1 w2 W5 w6 W7 : World} {n NB WB mb : Nat} {wt : Nat → Nat} {DM : DataW Unit} {E : List Ed} {ea sa da wa : Option Addr} {ec sc dc wc : Nat} {val : Bool × Nat → Value}
    (hN : Nds B1 wa0 w1 n NB WB mb wt n DM) (hb12 : Below w1.heap.size w1 w2) (hE : EdF w2 w1.heap.size E (.slice ea E.length ec) (.slice sa E.length sc) (.slice da E.length dc) (.slice wa E.length wc))
    (hb25 : Below w2.heap.size w2 W5) (hF : Fam w2.heap.size (w2.heap.size + 4) W5 w6 (mkD n E wt) w2.heap.size (w2.heap.size + 1) (w2.heap.size + 2) (w2.heap.size + 3) val (lsK (mkD n E wt) E.length) E.length)
    (hW7 : W7 = w6.alloc (.cells #[.string lawS, .slice (some ⟨NB, 0, none⟩) n n, .slice ea E.length ec, .map (some mb), .slice (some ⟨w2.heap.size, 0, none⟩) E.length E.length, .slice (some ⟨w2.heap.size + 1, 0, none⟩) E.length E.length, .slice (some ⟨w2.heap.size + 2, 0, none⟩) n n, .slice (some ⟨w2.heap.size + 3, 0, none⟩) n n] 48)) :
    Below w2.heap.size w2 W7 ∧ Gr W7 ⟨w6.heap.size, NB, w2.heap.size, w2.heap.size + 1, w2.heap.size + 2, w2.heap.size + 3, mb, ea, ec, fun v => val (true, v), fun v => val (false, v), DM⟩ (mkD n E wt) ∧ Ix ⟨w6.heap.size, NB, w2.heap.size, w2.heap.size + 1, w2.heap.size + 2, w2.heap.size + 3, mb, ea, ec, fun v => val (true, v), fun v => val (false, v), DM⟩ (mkD n E wt) := by
  have hb67 : Below w6.heap.size w6 W7 := by rw [hW7]; exact (Below.refl _ _).alloc (Nat.le_refl _) _
  have hb26 : Below w2.heap.size w2 w6 := hb25.trans hF.below
  have hb27 : Below w2.heap.size w2 W7 := below_up hb26 hb67
  have hb17 : Below w1.heap.size w1 W7 := below_up hb12 hb27
  have hg : W7.heap[w6.heap.size]? = some (.cells #[.string lawS, .slice (some ⟨NB, 0, none⟩) n n, .slice ea E.length ec, .map (some mb), .slice (some ⟨w2.heap.size, 0, none⟩) E.length E.length, .slice (some ⟨w2.heap.size + 1, 0, none⟩) E.length E.length, .slice (some ⟨w2.heap.size + 2, 0, none⟩) n n, .slice (some ⟨w2.heap.size + 3, 0, none⟩) n n] 48 (0, 0)) := by rw [hW7]; exact blk_alloc_new _ _
  have hrows := ed_rows (n := n) (wt := wt) hE
  have fam7 := hF.fam.keep hb67
  have rows : ∀ (a : Bool) (v : Nat), v < n → Row W7 (val (a, v)) (lsK (mkD n E wt) E.length (a, v)).length (ints (lsK (mkD n E wt) E.length (a, v))) := fun a v hv => by
    refine (Row.of_own (fam7.own (a, v) hv)).congr fun j hj => ?_
    unfold ints
    rw [List.getD_eq_getElem?_getD, List.getD_eq_getElem?_getD, iv_get hj, List.getElem?_eq_getElem hj]; rfl
  refine ⟨hb27, ⟨?_, ?_, ?_, ?_, ?_, ?_, ?_, ?_, ?_, ?_, ?_, ?_, ?_, ?_, ?_⟩, ⟨hN.ix.hit, hN.ix.miss⟩⟩
  · show W7.cell? ⟨w6.heap.size, 1, none⟩ = _; simp [World.cell?, hg]; rfl
  · show W7.cell? ⟨w6.heap.size, 2, none⟩ = _; simp [World.cell?, hg]; rfl
  · show W7.cell? ⟨w6.heap.size, 3, none⟩ = _; simp [World.cell?, hg]
  · show W7.cell? ⟨w6.heap.size, 4, none⟩ = _; simp [World.cell?, hg]; rfl
  · show W7.cell? ⟨w6.heap.size, 5, none⟩ = _; simp [World.cell?, hg]; rfl
  · show W7.cell? ⟨w6.heap.size, 6, none⟩ = _; simp [World.cell?, hg]; rfl
  · show W7.cell? ⟨w6.heap.size, 7, none⟩ = _; simp [World.cell?, hg]; rfl
  · exact fun i hi => cell_old hb17 (hN.nid i hi)
  · exact fun i hi => cell_old hb17 (hN.nwt i hi)
  · intro j hj
    obtain ⟨b, e, hh⟩ := hrows.2.2.2.1 j hj
    exact ⟨b, e, fun i hi => ⟨cell_old hb27 (hh i hi).1, cell_old hb27 (hh i hi).2.1, cell_old hb27 (hh i hi).2.2⟩⟩
  · intro j hj
    have := cell_old hb67 (hF.gs.cell hj)
    unfold gAt at this
    rw [if_pos (show j < E.length from hj)] at this
    exact this
  · intro j hj
    have := cell_old hb67 (hF.gt.cell hj)
    unfold gAt at this
    rw [if_pos (show j < E.length from hj)] at this
    exact this
  · exact fun v hv => ⟨cell_old hb67 (hF.ib.cell hv), rows true v hv⟩
  · exact fun v hv => ⟨cell_old hb67 (hF.ob.cell hv), rows false v hv⟩
  · exact hN.mp.kept (grown_of_below hb17 none) (by simp)

end Go.Proofs.YbulkectmFmt.A
