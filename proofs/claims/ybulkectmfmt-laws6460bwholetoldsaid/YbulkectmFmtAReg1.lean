import Derived.Test.YbulkectmFmtAFire
namespace Go.Proofs.YbulkectmFmt.A
set_option linter.unusedVariables false
set_option linter.unusedSimpArgs false
open Go.RowKit Go.Deep

theorem info4 : (Ybaf.prog.info? 4).map (fun i => (i.zero, i.size, i.bytes)) = some (some (.bool false), 1, 1) := by kernel_rfl

/-- The firing, made. -/
structure Made (w wr : World) (s fv fp SD RK n : Nat) : Prop where
  below : Below s w wr
  hfv : wr.heap[fv]? = some (.cells #[.pointer (some ⟨fp, 0, none⟩)] 66 (0, 0))
  hfp : wr.heap[fp]? = some (.cells #[.float .f64 4602678819172646912, .slice (some ⟨SD, 0, none⟩) n n, .slice (some ⟨RK, 0, none⟩) n n] 70 (0, 0))
  sd : wr.heap[SD]? = some (.cells (madeCells #[.bool false] n) 4 (0, 0))
  rk : wr.heap[RK]? = some (.cells (madeCells #[.int .i64 0] n) 3 (0, 0))
  lo : s ≤ fv ∧ s ≤ fp ∧ s ≤ SD ∧ s ≤ RK

theorem four_alloc (w : World) (a b c d : Obj) (i : Nat) (o : Obj) (h : [a, b, c, d][i]? = some o) : ((((w.alloc a).alloc b).alloc c).alloc d).drew.heap[w.heap.size + i]? = some o := by
  show ((((w.alloc a).alloc b).alloc c).alloc d).heap[w.heap.size + i]? = some o
  match i, h with
  | 0, h =>
    simp at h; subst h
    rw [blk_alloc_lt _ _ _ (by simp only [nblk_alloc]; omega), blk_alloc_lt _ _ _ (by simp only [nblk_alloc]; omega), blk_alloc_lt _ _ _ (by simp only [nblk_alloc]; omega)]
    exact blk_alloc_new _ _
  | 1, h =>
    simp at h; subst h
    rw [blk_alloc_lt _ _ _ (by simp only [nblk_alloc]; omega), blk_alloc_lt _ _ _ (by simp only [nblk_alloc]; omega)]
    have := blk_alloc_new (w.alloc a) b
    rw [nblk_alloc] at this
    exact this
  | 2, h =>
    simp at h; subst h
    rw [blk_alloc_lt _ _ _ (by simp only [nblk_alloc]; omega)]
    have := blk_alloc_new ((w.alloc a).alloc b) c
    simp only [nblk_alloc] at this
    exact this
  | 3, h =>
    simp at h; subst h
    have := blk_alloc_new (((w.alloc a).alloc b).alloc c) d
    simp only [nblk_alloc] at this
    exact this
  | k + 4, h => simp at h

theorem made_of (w : World) (a b c d : Obj) (i1 i2 i3 i4 n : Nat) (h1 : [a, b, c, d][i1]? = some (.cells #[.pointer (some ⟨w.heap.size + i2, 0, none⟩)] 66)) (h2 : [a, b, c, d][i2]? = some (.cells #[.float .f64 4602678819172646912, .slice (some ⟨w.heap.size + i3, 0, none⟩) n n, .slice (some ⟨w.heap.size + i4, 0, none⟩) n n] 70)) (h3 : [a, b, c, d][i3]? = some (.cells (madeCells #[.bool false] n) 4)) (h4 : [a, b, c, d][i4]? = some (.cells (madeCells #[.int .i64 0] n) 3)) :
    Made w ((((w.alloc a).alloc b).alloc c).alloc d).drew w.heap.size (w.heap.size + i1) (w.heap.size + i2) (w.heap.size + i3) (w.heap.size + i4) n :=
  ⟨((((Below.refl _ _).alloc (Nat.le_refl _) _).alloc (by simp only [nblk_alloc]; omega) _).alloc (by simp only [nblk_alloc]; omega) _).alloc (by simp only [nblk_alloc]; omega) _ |>.drew, four_alloc w a b c d i1 _ h1, four_alloc w a b c d i2 _ h2, four_alloc w a b c d i3 _ h3, four_alloc w a b c d i4 _ h4, by omega⟩

set_option maxRecDepth 1000000 in
set_option maxHeartbeats 8000000 in
/-- '&firing{..}', in whatever order. -/
theorem propReg1 (w : World) (gp NB n : Nat) (hn : n ≤ 300) (x1 : w.cell? ⟨gp, 1, none⟩ = some (.slice (some ⟨NB, 0, none⟩) n n))
    (Q : Exit → Act → World → Prop) (s1 s3 s4 s5 s6 s7 s8 s9 s10 s11 s12 s13 s14 s15 s16 s17 s18 s19 s20 s21 s22 s23 s24 s25 s26 s27 s28 s29 s30 s31 s32 s33 s34 s35 s36 s37 s38 s39 s40 s41 s42 s43 s44 s45 s46 s47 s48 s49 s50 s51 s52 s53 s54 s55 s56 s57 s58 s59 s60 s61 s62 s63 s64 s65 s66 s67 s68 s69 s70 s71 s72 s73 s74 s75 s76 s77 s78 s79 s80 s81 s82 s83 s84 s85 s86 s87 s88 s89 s90 s91 s92 s93 s94 s95 s96 s97 s98 s99 s100 s101 s102 s103 s104 s105 s106 s107 s108 s109 s110 s111 s112 s113 s114 s115 s116 s117 s118 s119 s120 s121 s122 s123 s124 s125 s126 s127 s128 s129 s130 s131 s132 s133 s134 s135 s136 s137 s138 s139 s140 s141 s142 s143 s144 s145 s146 s147 s148 s149 : Value)
    (hQ : ∀ (fv fp SD RK : Nat) (v18 v19 v20 v21 v22 v23 v24 v25 v26 v27 v28 v29 v30 v31 v32 : Value) (w1 : World), Made w w1 w.heap.size fv fp SD RK n → Q .normal ⟨#[.pointer (some ⟨gp, 0, none⟩), s1, .float .f64 4602678819172646912, s3, s4, s5, s6, .pointer (some ⟨fv, 0, none⟩), s8, s9, s10, s11, s12, s13, s14, s15, s16, s17, v18, v19, v20, v21, v22, v23, v24, v25, v26, v27, v28, v29, v30, v31, v32, s33, s34, s35, s36, s37, s38, s39, s40, s41, s42, s43, s44, s45, s46, s47, s48, s49, s50, s51, s52, s53, s54, s55, s56, s57, s58, s59, s60, s61, s62, s63, s64, s65, s66, s67, s68, s69, s70, s71, s72, s73, s74, s75, s76, s77, s78, s79, s80, s81, s82, s83, s84, s85, s86, s87, s88, s89, s90, s91, s92, s93, s94, s95, s96, s97, s98, s99, s100, s101, s102, s103, s104, s105, s106, s107, s108, s109, s110, s111, s112, s113, s114, s115, s116, s117, s118, s119, s120, s121, s122, s123, s124, s125, s126, s127, s128, s129, s130, s131, s132, s133, s134, s135, s136, s137, s138, s139, s140, s141, s142, s143, s144, s145, s146, s147, s148, s149], []⟩ w1) :
    Code.wp Ybaf.prog ((Ybaf.f12.body.bind (findRegion 1)).getD .skip) Q ⟨#[.pointer (some ⟨gp, 0, none⟩), s1, .float .f64 4602678819172646912, s3, s4, s5, s6, s7, s8, s9, s10, s11, s12, s13, s14, s15, s16, s17, s18, s19, s20, s21, s22, s23, s24, s25, s26, s27, s28, s29, s30, s31, s32, s33, s34, s35, s36, s37, s38, s39, s40, s41, s42, s43, s44, s45, s46, s47, s48, s49, s50, s51, s52, s53, s54, s55, s56, s57, s58, s59, s60, s61, s62, s63, s64, s65, s66, s67, s68, s69, s70, s71, s72, s73, s74, s75, s76, s77, s78, s79, s80, s81, s82, s83, s84, s85, s86, s87, s88, s89, s90, s91, s92, s93, s94, s95, s96, s97, s98, s99, s100, s101, s102, s103, s104, s105, s106, s107, s108, s109, s110, s111, s112, s113, s114, s115, s116, s117, s118, s119, s120, s121, s122, s123, s124, s125, s126, s127, s128, s129, s130, s131, s132, s133, s134, s135, s136, s137, s138, s139, s140, s141, s142, s143, s144, s145, s146, s147, s148, s149], []⟩ w := by
  have m4 := run_make_row' (P := Ybaf.prog) 55 4 (.bool false) 1 Ybaf.underlying55 info4 rfl .i64 .i64 n (by omega) (by omega)
  have m3 := run_make_row' (P := Ybaf.prog) 27 3 (.int .i64 0) 8 Ybaf.underlying27 info3 rfl .i64 .i64 n (by omega) (by omega)
  have l1 := lt_of_cell x1
  obtain ⟨Z4, hZ4⟩ : ∃ Z, Z = madeCells #[.bool false] n := ⟨_, rfl⟩
  obtain ⟨Z3, hZ3⟩ : ∃ Z, Z = madeCells #[.int .i64 0] n := ⟨_, rfl⟩
  rw [← hZ4] at m4
  rw [← hZ3] at m3
  have HZ4 := hid hZ4
  have HZ3 := hid hZ3
  clear hZ4 hZ3
  have HK : Hid (∀ W, Below w.heap.size w W → W.cell? ⟨gp, 1, none⟩ = some (.slice (some ⟨NB, 0, none⟩) n n) ∧ Below w.heap.size w W) := hid (fun W hB => ⟨cell_old hB x1, hB⟩)
  have hB0 : Below w.heap.size w w.drew := (Below.refl _ _).drew
  conv => arg 2; whnf
  refine wp_region_noPanic ?_
  go_region_held3 (fun W => W.cell? ⟨gp, 1, none⟩ = some (.slice (some ⟨NB, 0, none⟩) n n) ∧ Below w.heap.size w W) ((exact HK.out _ (by repeat (first | exact Below.refl _ _ | apply Below.drew | refine Below.alloc ?_ (by simp <;> omega) _)))) (fail)
  all_goals first | exact NoPanic.normal (hQ _ _ _ _ _ _ _ _ _ _ _ _ _ _ _ _ _ _ _ _ (made_of w _ _ _ _ 0 3 1 2 n rfl rfl (by rw [HZ4.out]; rfl) (by rw [HZ3.out]; rfl))) | exact NoPanic.normal (hQ _ _ _ _ _ _ _ _ _ _ _ _ _ _ _ _ _ _ _ _ (made_of w _ _ _ _ 0 3 2 1 n rfl rfl (by rw [HZ4.out]; rfl) (by rw [HZ3.out]; rfl))) | exact NoPanic.normal (hQ _ _ _ _ _ _ _ _ _ _ _ _ _ _ _ _ _ _ _ _ (made_of w _ _ _ _ 1 3 0 2 n rfl rfl (by rw [HZ4.out]; rfl) (by rw [HZ3.out]; rfl))) | exact NoPanic.normal (hQ _ _ _ _ _ _ _ _ _ _ _ _ _ _ _ _ _ _ _ _ (made_of w _ _ _ _ 1 3 2 0 n rfl rfl (by rw [HZ4.out]; rfl) (by rw [HZ3.out]; rfl))) | exact NoPanic.normal (hQ _ _ _ _ _ _ _ _ _ _ _ _ _ _ _ _ _ _ _ _ (made_of w _ _ _ _ 2 3 0 1 n rfl rfl (by rw [HZ4.out]; rfl) (by rw [HZ3.out]; rfl))) | exact NoPanic.normal (hQ _ _ _ _ _ _ _ _ _ _ _ _ _ _ _ _ _ _ _ _ (made_of w _ _ _ _ 2 3 1 0 n rfl rfl (by rw [HZ4.out]; rfl) (by rw [HZ3.out]; rfl))) | exact NoPanic.normal (hQ _ _ _ _ _ _ _ _ _ _ _ _ _ _ _ _ _ _ _ _ (made_of w _ _ _ _ 3 2 0 1 n rfl rfl (by rw [HZ4.out]; rfl) (by rw [HZ3.out]; rfl))) | exact NoPanic.normal (hQ _ _ _ _ _ _ _ _ _ _ _ _ _ _ _ _ _ _ _ _ (made_of w _ _ _ _ 3 2 1 0 n rfl rfl (by rw [HZ4.out]; rfl) (by rw [HZ3.out]; rfl)))

end Go.Proofs.YbulkectmFmt.A
