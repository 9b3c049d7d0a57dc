import Derived.Test.YbulkecuoBRegion15
namespace Go.Proofs.Ybulkecuo.B
open Go.RowKit Go.Deep
attribute [local go_sem ↓] Go.wp_at_zero Go.wp_at_succ

set_option maxRecDepth 1000000 in
set_option maxHeartbeats 4000000 in
/-- 'blocks(holder{p.txn, p.mode}, x, q.mode)', in whatever order. -/
theorem letRegion16 (wr : World) (pv nd T X q : Nat) (m o : Int) (b : Bool) (x3 : wr.cell? ⟨pv, 0, none⟩ = some (.pointer (some ⟨nd, 0, none⟩))) (x4 : wr.cell? ⟨nd, 0, none⟩ = some (.pointer (some ⟨T, 0, none⟩))) (x5 : wr.cell? ⟨nd, 2, none⟩ = some (.int .u8 m)) (x6 : wr.cell? ⟨q, 2, none⟩ = some (.int .u8 o))
    (h19 : ∀ W, Below wr.heap.size wr W → Calls Yba.prog 19 #[.agg #[.pointer (some ⟨T, 0, none⟩), .int .u8 m], .pointer (some ⟨X, 0, none⟩), .int .u8 o] W fun e w' => e = .returned (.bool b) ∧ Below wr.heap.size wr w')
    (Q : Exit → Act → World → Prop) (s0 s2 s3 s4 s5 s6 s8 s9 s10 s11 s12 s14 s15 s16 s17 s18 s19 s20 s21 s22 s23 s24 s25 s26 s27 s28 s29 s30 s31 s32 s33 s34 s35 s36 s37 s38 s39 s40 s41 s42 s43 s44 s45 s46 s47 s48 s49 s50 s51 s52 s53 s54 s55 s56 s57 s58 s59 s60 s61 s62 s63 s64 s65 s66 s67 s68 s69 s70 s71 s72 s73 s74 s75 s76 s77 s78 s79 s80 s81 s82 s83 s84 s85 s86 s87 s88 s89 s90 s91 s92 s93 s94 s95 s96 s97 s98 s99 s100 s101 s102 s103 s104 s105 s106 s107 s108 s109 s110 s111 s112 s113 s114 s115 s116 s117 s118 s119 s120 s121 s122 s123 : Value)
    (hQ : ∀ (v69 v70 v71 v72 v73 v74 v75 v76 v77 v78 v79 v80 v81 v82 : Value) (w1 : World), Below wr.heap.size wr w1 → Q .normal ⟨#[s0, .pointer (some ⟨X, 0, none⟩), s2, s3, s4, s5, s6, .pointer (some ⟨q, 0, none⟩), s8, s9, s10, s11, s12, .pointer (some ⟨pv, 0, none⟩), s14, s15, s16, s17, s18, s19, s20, s21, s22, s23, s24, s25, s26, s27, s28, s29, s30, s31, s32, s33, s34, s35, s36, s37, s38, s39, s40, s41, s42, s43, s44, s45, s46, s47, s48, s49, s50, s51, s52, s53, s54, s55, s56, s57, s58, s59, s60, s61, s62, s63, s64, s65, s66, s67, s68, v69, v70, v71, v72, v73, v74, v75, v76, v77, v78, v79, v80, v81, v82, .bool b, s84, s85, s86, s87, s88, s89, s90, s91, s92, s93, s94, s95, s96, s97, s98, s99, s100, s101, s102, s103, s104, s105, s106, s107, s108, s109, s110, s111, s112, s113, s114, s115, s116, s117, s118, s119, s120, s121, s122, s123], []⟩ w1) :
    Code.wp Yba.prog ((Yba.f11.body.bind (findRegion 16)).getD .skip) Q ⟨#[s0, .pointer (some ⟨X, 0, none⟩), s2, s3, s4, s5, s6, .pointer (some ⟨q, 0, none⟩), s8, s9, s10, s11, s12, .pointer (some ⟨pv, 0, none⟩), s14, s15, s16, s17, s18, s19, s20, s21, s22, s23, s24, s25, s26, s27, s28, s29, s30, s31, s32, s33, s34, s35, s36, s37, s38, s39, s40, s41, s42, s43, s44, s45, s46, s47, s48, s49, s50, s51, s52, s53, s54, s55, s56, s57, s58, s59, s60, s61, s62, s63, s64, s65, s66, s67, s68, s69, s70, s71, s72, s73, s74, s75, s76, s77, s78, s79, s80, s81, s82, s83, s84, s85, s86, s87, s88, s89, s90, s91, s92, s93, s94, s95, s96, s97, s98, s99, s100, s101, s102, s103, s104, s105, s106, s107, s108, s109, s110, s111, s112, s113, s114, s115, s116, s117, s118, s119, s120, s121, s122, s123], []⟩ wr := by
  have hAll : ∀ W, Below wr.heap.size wr W → W.cell? ⟨pv, 0, none⟩ = some (.pointer (some ⟨nd, 0, none⟩)) ∧ W.cell? ⟨nd, 0, none⟩ = some (.pointer (some ⟨T, 0, none⟩)) ∧ W.cell? ⟨nd, 2, none⟩ = some (.int .u8 m) ∧ W.cell? ⟨q, 2, none⟩ = some (.int .u8 o) ∧ Below wr.heap.size wr W := fun W hB => ⟨cell_keep hB (lt_of_cell x3) x3, cell_keep hB (lt_of_cell x4) x4, cell_keep hB (lt_of_cell x5) x5, cell_keep hB (lt_of_cell x6) x6, hB⟩
  have hB0 : Below wr.heap.size wr wr.drew := (Below.refl _ _).drew
  have HAll := hid hAll
  have H19 := hid h19
  clear hAll h19
  conv => arg 2; whnf
  refine wp_region_noPanic ?_
  go_region_held3 (fun W => W.cell? ⟨pv, 0, none⟩ = some (.pointer (some ⟨nd, 0, none⟩)) ∧ W.cell? ⟨nd, 0, none⟩ = some (.pointer (some ⟨T, 0, none⟩)) ∧ W.cell? ⟨nd, 2, none⟩ = some (.int .u8 m) ∧ W.cell? ⟨q, 2, none⟩ = some (.int .u8 o) ∧ Below wr.heap.size wr W) ((exact HAll.out _ (by assumption))) ((first | (rw [if_pos (by rfl)]; go_simp; go_at_call 19; go_split_ands; refine (H19.out _ (by assumption)).mono ?_; rintro e w' ⟨rfl, hbx⟩; go_wp2_with fail)))
  all_goals exact NoPanic.normal (hQ _ _ _ _ _ _ _ _ _ _ _ _ _ _ _ (by assumption))

end Go.Proofs.Ybulkecuo.B
