import Derived.Test.YbulkectmFmtAChain1
namespace Go.Proofs.YbulkectmFmt.A
set_option linter.unusedVariables false
set_option linter.unusedSimpArgs false
open Go.RowKit Go.Deep

theorem info9 : (Ybaf.prog.info? 9).map (fun i => (i.zero, i.size, i.bytes)) = some (some (.string ⟨#[]⟩), 1, 16) := by kernel_rfl

set_option maxRecDepth 1000000 in
set_option maxHeartbeats 8000000 in
/-- 'ids[len(path)-1-i] = g.Nodes[s.node].ID', in whatever order. -/
theorem chainReg18 (wr : World) (gB gp NB n g k cap IB i sB x j : Nat) (hj : j + 1 + i = k) (hk3 : k ≤ 300) (hxn : x < n) (c1 : wr.cell? ⟨gB, 0, none⟩ = some (.pointer (some ⟨gp, 0, none⟩))) (c2 : wr.cell? ⟨gp, 1, none⟩ = some (.slice (some ⟨NB, 0, none⟩) n n)) (c3 : wr.cell? ⟨sB, 0, none⟩ = some (.int .i64 (x : Int))) (c4 : wr.cell? ⟨NB, x * 12, none⟩ = some (.string (idStr x))) (c5 : ∃ v, wr.cell? ⟨IB, j, none⟩ = some v) (c6 : wr.frozen? ⟨IB, j, none⟩ = false) (n1 : gB ≠ IB) (n2 : gp ≠ IB) (n3 : sB ≠ IB) (n4 : NB ≠ IB)
    (Q : Exit → Act → World → Prop) (s0 s1 s2 s3 s5 s6 s7 s8 s9 s10 s12 s13 s17 s18 s19 s20 s21 s22 s23 s24 s25 s26 s27 s28 s29 s30 s31 s32 s33 s34 s35 s36 s37 s38 s39 s40 s41 s42 s43 s44 s45 s46 s47 s48 s49 s50 s51 s52 s53 s54 s55 s56 s57 s58 s59 s60 s61 s62 s63 s64 s65 s66 s67 s68 s69 s70 s71 s72 s73 s74 s75 s76 s77 s78 s79 s80 s81 s82 s83 s84 s85 s86 s87 s88 s89 s90 s91 s92 s93 s94 s95 s96 s97 s98 s99 s100 s101 s102 s103 s104 s105 s106 s107 s108 s109 s110 s111 s112 s113 s114 s115 s116 s117 s118 s119 s120 s121 s122 s123 s124 s125 s126 s127 s128 s129 s130 s131 : Value)
    (hQ : ∀ (v114 v115 v116 v117 v118 v119 v120 v121 v122 v123 v124 v125 v126 v127 v128 v129 : Value), Q .normal ⟨#[s0, s1, s2, s3, .pointer (some ⟨gB, 0, none⟩), s5, s6, s7, s8, s9, s10, .slice (some ⟨g, 0, none⟩) k cap, s12, s13, .slice (some ⟨IB, 0, none⟩) k k, .int .i64 (i : Int), .pointer (some ⟨sB, 0, none⟩), s17, s18, s19, s20, s21, s22, s23, s24, s25, s26, s27, s28, s29, s30, s31, s32, s33, s34, s35, s36, s37, s38, s39, s40, s41, s42, s43, s44, s45, s46, s47, s48, s49, s50, s51, s52, s53, s54, s55, s56, s57, s58, s59, s60, s61, s62, s63, s64, s65, s66, s67, s68, s69, s70, s71, s72, s73, s74, s75, s76, s77, s78, s79, s80, s81, s82, s83, s84, s85, s86, s87, s88, s89, s90, s91, s92, s93, s94, s95, s96, s97, s98, s99, s100, s101, s102, s103, s104, s105, s106, s107, s108, s109, s110, s111, s112, s113, v114, v115, v116, v117, v118, v119, v120, v121, v122, v123, v124, v125, v126, v127, v128, v129, s130, s131], []⟩ ((wr.setCell ⟨IB, j, none⟩ (.string (idStr x))).drew)) :
    Code.wp Ybaf.prog ((Ybaf.f14.body.bind (findRegion 18)).getD .skip) Q ⟨#[s0, s1, s2, s3, .pointer (some ⟨gB, 0, none⟩), s5, s6, s7, s8, s9, s10, .slice (some ⟨g, 0, none⟩) k cap, s12, s13, .slice (some ⟨IB, 0, none⟩) k k, .int .i64 (i : Int), .pointer (some ⟨sB, 0, none⟩), s17, s18, s19, s20, s21, s22, s23, s24, s25, s26, s27, s28, s29, s30, s31, s32, s33, s34, s35, s36, s37, s38, s39, s40, s41, s42, s43, s44, s45, s46, s47, s48, s49, s50, s51, s52, s53, s54, s55, s56, s57, s58, s59, s60, s61, s62, s63, s64, s65, s66, s67, s68, s69, s70, s71, s72, s73, s74, s75, s76, s77, s78, s79, s80, s81, s82, s83, s84, s85, s86, s87, s88, s89, s90, s91, s92, s93, s94, s95, s96, s97, s98, s99, s100, s101, s102, s103, s104, s105, s106, s107, s108, s109, s110, s111, s112, s113, s114, s115, s116, s117, s118, s119, s120, s121, s122, s123, s124, s125, s126, s127, s128, s129, s130, s131], []⟩ wr := by
  obtain ⟨v0, c5⟩ := c5
  have e1 : IntKind.i64.wrap ((k : Int) - 1) = (k : Int) - 1 := by rw [IntKind.wrap_i64]; omega
  have e2 : (k : Int) - 1 - (i : Int) = (j : Int) := by omega
  have e3 : IntKind.i64.wrap (j : Int) = (j : Int) := by rw [IntKind.wrap_i64]; omega
  have x0 : (0 : Int) ≤ (x : Int) := by omega
  have x1 : (x : Int) < (n : Int) := by omega
  have j0 : (0 : Int) ≤ (j : Int) := by omega
  have j1 : (j : Int) < (k : Int) := by omega
  obtain ⟨S, hS⟩ : ∃ S, S = idStr x := ⟨_, rfl⟩
  rw [← hS] at c4 hQ
  clear hS
  have HKP : Hid ((wr.setCell ⟨IB, j, none⟩ (.string S)).drew.cell? ⟨gB, 0, none⟩ = some (.pointer (some ⟨gp, 0, none⟩)) ∧ (wr.setCell ⟨IB, j, none⟩ (.string S)).drew.cell? ⟨gp, 1, none⟩ = some (.slice (some ⟨NB, 0, none⟩) n n) ∧ (wr.setCell ⟨IB, j, none⟩ (.string S)).drew.cell? ⟨sB, 0, none⟩ = some (.int .i64 (x : Int)) ∧ (wr.setCell ⟨IB, j, none⟩ (.string S)).drew.cell? ⟨NB, x * 12, none⟩ = some (.string S)) := hid ⟨(World.cell?_setCell_other _ _ _ _ (fun e => by injection e with e; exact n1 e.symm)).trans c1, (World.cell?_setCell_other _ _ _ _ (fun e => by injection e with e; exact n2 e.symm)).trans c2, (World.cell?_setCell_other _ _ _ _ (fun e => by injection e with e; exact n3 e.symm)).trans c3, (World.cell?_setCell_other _ _ _ _ (fun e => by injection e with e; exact n4 e.symm)).trans c4⟩
  conv => arg 2; whnf
  refine wp_region_noPanic ?_
  go_region_held3 (fun W => W.cell? ⟨gB, 0, none⟩ = some (.pointer (some ⟨gp, 0, none⟩)) ∧ W.cell? ⟨gp, 1, none⟩ = some (.slice (some ⟨NB, 0, none⟩) n n) ∧ W.cell? ⟨sB, 0, none⟩ = some (.int .i64 (x : Int)) ∧ W.cell? ⟨NB, x * 12, none⟩ = some (.string S)) ((first | exact HKP.out | go_keep)) (fail)
  all_goals exact NoPanic.normal (hQ _ _ _ _ _ _ _ _ _ _ _ _ _ _ _ _)

/-- The ids written so far, from the last on. -/
def idsAt (nodes : List Nat) (i j : Nat) : Value := if nodes.length ≤ j + i then .string (idStr (nodes.reverse.getD j 0)) else .string ⟨#[]⟩

theorem idsAt_step (nodes : List Nat) (i j : Nat) (hij : j + 1 + i = nodes.length) (p : Nat) : (if p = j then .string (idStr (nodes.getD i 0)) else idsAt nodes i p) = idsAt nodes (i + 1) p := by
  unfold idsAt
  by_cases e : p = j
  · subst e
    rw [if_pos rfl, if_pos (by omega)]
    congr 2
    rw [List.getD_eq_getElem?_getD, List.getD_eq_getElem?_getD, List.getElem?_reverse (by omega), show nodes.length - 1 - p = i by omega]
  · rw [if_neg e]
    by_cases h1 : nodes.length ≤ p + i
    · rw [if_pos h1, if_pos (by omega)]
    · rw [if_neg h1, if_neg (by omega)]

set_option maxRecDepth 1000000 in
set_option maxHeartbeats 8000000 in
/-- 'for i, s := range path { ids[len(path)-1-i] = .. }'. -/
theorem chainLoop2 (w wq : World) (M : GM) (D : GD) (hD : D.Ok) (hG : Gr w M D) (hBw : Below w.heap.size w wq) (gB : Nat) (hgB : wq.cell? ⟨gB, 0, none⟩ = some (.pointer (some ⟨M.gp, 0, none⟩))) (g cap : Nat) (St : List Stp) (hSt : ∀ s ∈ St, s.1 < D.n ∧ s.2.1.oneCell' = true) (hsl : ∀ s ∈ St, ∃ a n c, s.2.1 = .slice a n c) (hlen : St.length ≤ D.n) (base : Nat) (hown : wq.ownsRow base 78 3 (.slice (some ⟨g, 0, none⟩) St.length cap) St.length (scs St)) (IB : Nat) (hIB : wq.rowIs IB 9 St.length (fun _ => .string ⟨#[]⟩)) (nI : w.heap.size ≤ IB) (ng : gB ≠ IB) (ngg : g ≠ IB)
    (Q : Exit → Act → World → Prop) (s0 s1 s2 s3 s5 s6 s7 s8 s9 s10 s12 s13 s15 s16 s17 s18 s19 s20 s21 s22 s23 s24 s25 s26 s27 s28 s29 s30 s31 s32 s33 s34 s35 s36 s37 s38 s39 s40 s41 s42 s43 s44 s45 s46 s47 s48 s49 s50 s51 s52 s53 s54 s55 s56 s57 s58 s59 s60 s61 s62 s63 s64 s65 s66 s67 s68 s69 s70 s71 s72 s73 s74 s75 s76 s77 s78 s79 s80 s81 s82 s83 s84 s85 s86 s87 s88 s89 s90 s91 s92 s93 s94 s95 s96 s97 s98 s99 s100 s101 s102 s103 s104 s105 s106 s110 s111 s112 s113 s114 s115 s116 s117 s118 s119 s120 s121 s122 s123 s124 s125 s126 s127 s128 s129 s130 s131 : Value)
    (hQ : ∀ (v15 v16 v109 v110 v111 v112 v113 v114 v115 v116 v117 v118 v119 v120 v121 v122 v123 v124 v125 v126 v127 v128 v129 v130 : Value) (w1 : World), Below w.heap.size w w1 → (∀ j, j < St.length → w1.cell? ⟨IB, j, none⟩ = some (.string (idStr ((St.map (·.1)).reverse.getD j 0)))) → Q .normal ⟨#[s0, s1, s2, s3, .pointer (some ⟨gB, 0, none⟩), s5, s6, s7, s8, s9, s10, .slice (some ⟨g, 0, none⟩) St.length cap, s12, s13, .slice (some ⟨IB, 0, none⟩) St.length St.length, v15, v16, s17, s18, s19, s20, s21, s22, s23, s24, s25, s26, s27, s28, s29, s30, s31, s32, s33, s34, s35, s36, s37, s38, s39, s40, s41, s42, s43, s44, s45, s46, s47, s48, s49, s50, s51, s52, s53, s54, s55, s56, s57, s58, s59, s60, s61, s62, s63, s64, s65, s66, s67, s68, s69, s70, s71, s72, s73, s74, s75, s76, s77, s78, s79, s80, s81, s82, s83, s84, s85, s86, s87, s88, s89, s90, s91, s92, s93, s94, s95, s96, s97, s98, s99, s100, s101, s102, s103, s104, s105, s106, .slice (some ⟨g, 0, none⟩) St.length cap, .int .i64 (St.length : Int), v109, v110, v111, v112, v113, v114, v115, v116, v117, v118, v119, v120, v121, v122, v123, v124, v125, v126, v127, v128, v129, v130, s131], []⟩ w1) :
    Code.wp Ybaf.prog ((Ybaf.f14.body.bind (findLoop 16)).getD .skip) (Exit.inBlock 2 Q) ⟨#[s0, s1, s2, s3, .pointer (some ⟨gB, 0, none⟩), s5, s6, s7, s8, s9, s10, .slice (some ⟨g, 0, none⟩) St.length cap, s12, s13, .slice (some ⟨IB, 0, none⟩) St.length St.length, s15, s16, s17, s18, s19, s20, s21, s22, s23, s24, s25, s26, s27, s28, s29, s30, s31, s32, s33, s34, s35, s36, s37, s38, s39, s40, s41, s42, s43, s44, s45, s46, s47, s48, s49, s50, s51, s52, s53, s54, s55, s56, s57, s58, s59, s60, s61, s62, s63, s64, s65, s66, s67, s68, s69, s70, s71, s72, s73, s74, s75, s76, s77, s78, s79, s80, s81, s82, s83, s84, s85, s86, s87, s88, s89, s90, s91, s92, s93, s94, s95, s96, s97, s98, s99, s100, s101, s102, s103, s104, s105, s106, .slice (some ⟨g, 0, none⟩) St.length cap, .int .i64 (St.length : Int), .int .i64 0, s110, s111, s112, s113, s114, s115, s116, s117, s118, s119, s120, s121, s122, s123, s124, s125, s126, s127, s128, s129, s130, s131], []⟩ wq := by
  conv => arg 2; whnf
  conv => arg 4; dsimp only
  have hn3 := hD.hn
  have hgl := (hown.lt g rfl).2
  have hgBl := lt_of_cell hgB
  have hIl := hIB.lt
  go_loopw [109] (fun x wx => ∃ i : Nat, i ≤ St.length ∧ x = .int .i64 i ∧ wq.heap.size ≤ wx.heap.size ∧ wx.os = wq.os ∧ wx.tape = wq.tape ∧ wx.output = wq.output ∧ (∀ k, k < wq.heap.size → k ≠ IB → wx.heap[k]? = wq.heap[k]?) ∧ wx.rowIs IB 9 St.length (idsAt (St.map (·.1)) i)) (fun x _ => St.length - (intOf x).toNat)
  case atStart => exact ⟨0, Nat.zero_le _, rfl, Nat.le_refl _, rfl, rfl, rfl, fun _ _ _ => rfl, hIB.congr fun j hj => by unfold idsAt; rw [if_neg (by simp; omega)]⟩
  case round =>
    obtain ⟨i, hi, rfl, hs, ho1, ho2, ho3, hblk, hrow⟩ := hrel
    by_cases hlt : i < St.length
    · obtain ⟨x, u, t, hst⟩ : ∃ x u t, St[i] = (x, u, t) := ⟨_, _, _, rfl⟩
      have hmem := hSt (x, u, t) (by rw [← hst]; exact List.getElem_mem hlt)
      have hxn : x < D.n := hmem.1
      have hsplit : St = St.take i ++ (x, u, t) :: St.drop (i + 1) := by rw [← hst, ← List.drop_eq_getElem_cons hlt, List.take_append_drop]
      have hcs : ∀ q, q < 3 → wr.cell? ⟨g, i * 3 + q, none⟩ = (sc (x, u, t))[q]? := fun q hq => by
        rw [World.cell?_of_block (w := wq) (hblk g hgl ngg), hown.cellAt (i * 3 + q) (by omega)]
        have h1 := scs_get (St.take i) (x, u, t) (St.drop (i + 1)) q hq
        rw [← hsplit, List.length_take, Nat.min_eq_left hi] at h1
        exact h1
      have a0 : wr.cell? ⟨g, i * 3, none⟩ = some (.int .i64 (x : Int)) := by have := hcs 0 (by omega); rw [Nat.add_zero] at this; rw [this]; rfl
      have a1 : wr.cell? ⟨g, i * 3 + 1, none⟩ = some u := by rw [hcs 1 (by omega)]; rfl
      have a2 : wr.cell? ⟨g, i * 3 + 2, none⟩ = some (.int .i64 (t : Int)) := by rw [hcs 2 (by omega)]; rfl
      have hB : Below w.heap.size w wr := ⟨ho1.trans hBw.os, ho2.trans hBw.tape, ho3.trans hBw.output, Nat.le_trans hBw.size hs, fun k hk => by rw [hblk k (by have := hBw.size; omega) (by omega)]; exact hBw.block k hk⟩
      have d1 := cell_old hB hG.c1
      have d4 := cell_old hB (hG.nid x hxn)
      have d0 : wr.cell? ⟨gB, 0, none⟩ = some (.pointer (some ⟨M.gp, 0, none⟩)) := (World.cell?_of_block (w := wq) (hblk gB hgBl ng)).trans hgB
      have p1 : M.gp ≠ IB := fun e => by have := lt_of_cell hG.c1; omega
      have p4 : M.NB ≠ IB := fun e => by have := lt_of_cell (hG.nid x hxn); omega
      obtain ⟨j, hj⟩ : ∃ j, j + 1 + i = St.length := ⟨St.length - 1 - i, by omega⟩
      have r1 := hrow.cell (show j < St.length by omega)
      have r2 := hrow.frozen j
      have hnx : (St.map (·.1)).getD i 0 = x := by rw [List.getD_eq_getElem?_getD, List.getElem?_map, List.getElem?_eq_getElem hlt, hst]; rfl
      obtain ⟨k, hk⟩ : ∃ k, k = St.length := ⟨_, rfl⟩
      have hrl := hrow.lt
      have hk3 : k ≤ 300 := by rw [hk]; omega
      rw [← hk] at hlt hi hj
      have i0 : (0 : Int) ≤ (i : Int) := by omega
      have i1 : (i : Int) < (St.length : Int) := by omega
      have hone := hmem.2
      obtain ⟨ua, un, uc, rfl⟩ : ∃ a n c, u = .slice a n c := hsl (x, u, t) (by rw [← hst]; exact List.getElem_mem (by omega))
      have W0 : World := wr
      obtain ⟨W1, hW1⟩ : ∃ W1, W1 = wr.alloc (.cells #[.int .i64 (x : Int), .slice ua un uc, .int .i64 (t : Int)] 78) := ⟨_, rfl⟩
      have hB1 : Below wr.heap.size wr W1 := by rw [hW1]; exact (Below.refl _ _).alloc (Nat.le_refl _) _
      have q0 := cell_old hB1 d0
      have q1 := cell_old hB1 d1
      have q4 := cell_old hB1 d4
      have q3 : W1.cell? ⟨wr.heap.size, 0, none⟩ = some (.int .i64 (x : Int)) := by rw [hW1]; simp
      have q5 := cell_old hB1 r1
      have q6 : W1.frozen? ⟨IB, j, none⟩ = false := (hB1.frozen (p := ⟨IB, j, none⟩) hrl).trans r2
      have HEND : Hid (∀ W, W = (W1.setCell ⟨IB, j, none⟩ (.string (idStr x))).drew → wq.heap.size ≤ W.heap.size ∧ W.os = wq.os ∧ W.tape = wq.tape ∧ W.output = wq.output ∧ (∀ k, k < wq.heap.size → k ≠ IB → W.heap[k]? = wq.heap[k]?) ∧ W.rowIs IB 9 St.length (idsAt (St.map (·.1)) (i + 1))) := hid (fun W hW => by
        subst hW
        refine ⟨?_, hB1.os.trans ho1, hB1.tape.trans ho2, hB1.output.trans ho3, fun k' h1 h2 => ?_, ?_⟩
        · show wq.heap.size ≤ (W1.setCell _ _).heap.size
          rw [nblk_setCell]; exact Nat.le_trans hs hB1.size
        · show (W1.setCell _ _).heap[k']? = _
          rw [blk_setCell_other _ _ _ _ (by simpa using h2), hB1.block k' (by omega)]
          exact hblk k' h1 h2
        · refine ((hrow.of_block (hB1.block IB hrl)).set j (.string (idStr x))).congr fun p _ => ?_
          rw [← idsAt_step (St.map (·.1)) i j (by rw [List.length_map, ← hk]; omega) p, hnx])
      have HW1 := hid hW1
      have HK := hid hk
      have HHK : Hid (∃ v, W1.cell? ⟨IB, j, none⟩ = some v) := hid ⟨_, q5⟩
      clear hW1 hB1 hcs hsplit hblk hB hst hnx r1 r2 hmem W0 q5 hk d4
      go_wp2_with fail
      rw [← HW1.out]
      refine chainReg18 W1 gB M.gp M.NB D.n g St.length cap IB i wr.heap.size x j (by rw [← HK.out]; exact hj) (by rw [← HK.out]; exact hk3) hxn q0 q1 q3 q4 HHK.out q6 ng p1 (by omega) p4 _ _ _ _ _ _ _ _ _ _ _ _ _ _ _ _ _ _ _ _ _ _ _ _ _ _ _ _ _ _ _ _ _ _ _ _ _ _ _ _ _ _ _ _ _ _ _ _ _ _ _ _ _ _ _ _ _ _ _ _ _ _ _ _ _ _ _ _ _ _ _ _ _ _ _ _ _ _ _ _ _ _ _ _ _ _ _ _ _ _ _ _ _ _ _ _ _ _ _ _ _ _ _ _ _ _ _ _ _ _ _ _ _ _ _ _ _ _ _ _ _ _ _ _ _ _ _ _ ?_
      intro q114 q115 q116 q117 q118 q119 q120 q121 q122 q123 q124 q125 q126 q127 q128 q129
      obtain ⟨W3, hW3⟩ : ∃ W3, W3 = (W1.setCell ⟨IB, j, none⟩ (.string (idStr x))).drew := ⟨_, rfl⟩
      have HE3 := hid (HEND.out W3 hW3)
      rw [← hW3]
      clear hW3 HEND q0 q1 q3 q4 q6 HHK a0 a1 a2 d0 d1
      go_wp2
      go_roundw
      case rel => exact ⟨i + 1, by have := HK.out; omega, by go_num, HE3.out⟩
      case measure => have := HK.out; simp [intOf]; omega
    · have e : i = St.length := by omega
      subst e
      have HB : Hid (Below w.heap.size w wr) := hid ⟨ho1.trans hBw.os, ho2.trans hBw.tape, ho3.trans hBw.output, Nat.le_trans hBw.size hs, fun k hk => by rw [hblk k (by have := hBw.size; omega) (by omega)]; exact hBw.block k hk⟩
      have HRW : Hid (∀ j, j < St.length → wr.cell? ⟨IB, j, none⟩ = some (.string (idStr ((St.map (·.1)).reverse.getD j 0)))) := hid (fun j hj => by
        rw [hrow.cell hj]
        unfold idsAt
        rw [if_pos (by simp)])
      clear hrow hblk ho1 ho2 ho3
      go_wp2
      exact hQ _ _ _ _ _ _ _ _ _ _ _ _ _ _ _ _ _ _ _ _ _ _ _ _ wr HB.out HRW.out

end Go.Proofs.YbulkectmFmt.A
