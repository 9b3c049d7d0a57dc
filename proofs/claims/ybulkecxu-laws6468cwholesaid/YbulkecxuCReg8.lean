import Derived.Test.YbulkecxuCKnown
namespace Go.Proofs.Ybulkecxu.C
set_option linter.unusedVariables false
set_option linter.unusedSimpArgs false
open Go.RowKit Go.Deep
attribute [local go_sem ↓] toLd28 toSt28

set_option maxRecDepth 1000000 in
set_option maxHeartbeats 4000000 in
/-- 'n.fingers[i] = fs[i]', in whatever order. -/
theorem region8 (wr : World) (n b o len c i : Nat) (F : List Value) (hm : Mem F) (h1 : wr.rangeAt b (o + i * 21) F) (h2 : wr.there n (24 + i * 21) 21) (hi : i < len) (hi2 : i < 160)
    (Q : Exit → Act → World → Prop) (s1 s2 s3 s4 s5 s6 s7 s8 s9 s12 s13 s14 s15 s16 s17 s18 s19 s20 s21 s22 s23 s24 s25 s26 s27 s28 s29 s30 s31 s32 s33 s34 s35 s36 s37 s38 s39 s40 s41 s42 s43 s44 s45 s46 s47 s48 s49 s50 s51 s52 s53 s54 s55 s56 s57 s58 s59 s60 s61 s62 s63 s64 s65 s66 s67 s68 s69 s70 s71 s72 s73 s74 s75 s76 s77 s78 s79 s80 s81 s82 s83 s84 s85 s86 s87 s88 s89 s90 s91 s92 s93 s94 s95 s96 s97 s98 s99 s100 s101 s102 s103 s104 s105 s106 s107 s108 s109 s110 s111 s112 s113 s114 s115 s116 s117 : Value)
    (hQ : ∀ (v43 v44 v45 v46 v47 v48 v49 v50 v51 : Value), Q .normal ⟨#[.slice (some ⟨b, o, none⟩) len c, s1, s2, s3, s4, s5, s6, s7, s8, s9, .pointer (some ⟨n, 0, none⟩), .int .i64 (i : Int), s12, s13, s14, s15, s16, s17, s18, s19, s20, s21, s22, s23, s24, s25, s26, s27, s28, s29, s30, s31, s32, s33, s34, s35, s36, s37, s38, s39, s40, s41, s42, v43, v44, v45, v46, v47, v48, v49, v50, v51, s52, s53, s54, s55, s56, s57, s58, s59, s60, s61, s62, s63, s64, s65, s66, s67, s68, s69, s70, s71, s72, s73, s74, s75, s76, s77, s78, s79, s80, s81, s82, s83, s84, s85, s86, s87, s88, s89, s90, s91, s92, s93, s94, s95, s96, s97, s98, s99, s100, s101, s102, s103, s104, s105, s106, s107, s108, s109, s110, s111, s112, s113, s114, s115, s116, s117], []⟩ ((wr.drew).setCells n (24 + i * 21) F)) :
    Code.wp Yba.prog ((Yba.f3.body.bind (findRegion 8)).getD .skip) Q ⟨#[.slice (some ⟨b, o, none⟩) len c, s1, s2, s3, s4, s5, s6, s7, s8, s9, .pointer (some ⟨n, 0, none⟩), .int .i64 (i : Int), s12, s13, s14, s15, s16, s17, s18, s19, s20, s21, s22, s23, s24, s25, s26, s27, s28, s29, s30, s31, s32, s33, s34, s35, s36, s37, s38, s39, s40, s41, s42, s43, s44, s45, s46, s47, s48, s49, s50, s51, s52, s53, s54, s55, s56, s57, s58, s59, s60, s61, s62, s63, s64, s65, s66, s67, s68, s69, s70, s71, s72, s73, s74, s75, s76, s77, s78, s79, s80, s81, s82, s83, s84, s85, s86, s87, s88, s89, s90, s91, s92, s93, s94, s95, s96, s97, s98, s99, s100, s101, s102, s103, s104, s105, s106, s107, s108, s109, s110, s111, s112, s113, s114, s115, s116, s117], []⟩ wr := by
  have hS : ∀ W : World, W.rangeAt b (o + i * 21) F → (ld28 (.pointer (some ⟨b, o + i * 21, none⟩))).run Yba.prog W = .ok (.agg F.toArray) W := fun W h => load_mem W b (o + i * 21) F hm h
  have hT : (st28 (.pointer (some ⟨n, 24 + i * 21, none⟩)) (.agg F.toArray)).run Yba.prog wr.drew = .ok () (wr.drew.setCells n (24 + i * 21) F) := store_mem wr.drew n (24 + i * 21) F hm h2
  have hL : (ld28 (.pointer (some ⟨b, o + i * 21, none⟩))).run Yba.prog wr.drew = .ok (.agg F.toArray) wr.drew := load_mem _ b (o + i * 21) F hm h1
  have i0 : (0 : Int) ≤ (i : Int) := by omega
  have i1 : (i : Int) < (len : Int) := by omega
  have i2 : (i : Int) < 160 := by omega
  clear hS hm
  conv => arg 2; whnf
  refine wp_region_noPanic ?_
  go_region
  all_goals exact NoPanic.normal (hQ _ _ _ _ _ _ _ _ _)

end Go.Proofs.Ybulkecxu.C
