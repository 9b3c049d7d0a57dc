import Derived.Test.YbulkecuoBHeld
import Derived.Deep.RegionLaw
import Derived.Deep.RegionHeld3
import Derived.Deep.DrawnRows
namespace Go.Proofs.Ybulkecuo.B
open Go.RowKit Go.Deep
attribute [local go_sem ↓] Go.wp_at_zero Go.wp_at_succ

/-- The region of that number in a function's text. -/
def findRegion (n : Nat) : Code → Option Code
  | .region k ops b => if k = n then some (.region k ops b) else none
  | .seq a b => match findRegion n a with
    | some c => some c
    | none => findRegion n b
  | .block _ c => findRegion n c
  | .loop c => findRegion n c
  | .scope c => findRegion n c
  | .cond _ a b => match findRegion n a with
    | some c => some c
    | none => findRegion n b
  | _ => none

set_option maxRecDepth 1000000 in
set_option maxHeartbeats 4000000 in
/-- 'held = append(held, holder{p.txn, p.mode})', in whatever order. -/
theorem letRegion15 (wr : World) (hd pv nd T : Nat) (m : Int) (v : Value) (len : Nat) (xs : List Value) (hown : wr.ownsRow (hd + 1) 58 2 v len xs) (hlen : len ≤ 100000)
    (x1 : wr.cell? ⟨hd, 0, none⟩ = some v) (x2 : wr.frozen? ⟨hd, 0, none⟩ = false) (x3 : wr.cell? ⟨pv, 0, none⟩ = some (.pointer (some ⟨nd, 0, none⟩))) (x4 : wr.cell? ⟨nd, 0, none⟩ = some (.pointer (some ⟨T, 0, none⟩))) (x5 : wr.cell? ⟨nd, 2, none⟩ = some (.int .u8 m))
    (Q : Exit → Act → World → Prop) (s0 s1 s2 s3 s4 s5 s6 s7 s9 s10 s11 s12 s14 s15 s16 s17 s18 s19 s20 s21 s22 s23 s24 s25 s26 s27 s28 s29 s30 s31 s32 s33 s34 s35 s36 s37 s38 s39 s40 s41 s42 s43 s44 s45 s46 s47 s48 s49 s50 s51 s52 s53 s54 s55 s56 s57 s58 s59 s60 s61 s62 s63 s64 s65 s66 s67 s68 s69 s70 s71 s72 s73 s74 s75 s76 s77 s78 s79 s80 s81 s82 s83 s84 s85 s86 s87 s88 s89 s90 s91 s92 s93 s94 s95 s96 s97 s98 s99 s100 s101 s102 s103 s104 s105 s106 s107 s108 s109 s110 s111 s112 s113 s114 s115 s116 s117 s118 s119 s120 s121 s122 s123 : Value)
    (hQ : ∀ (v57 v58 v59 v60 v61 v62 v63 v64 v65 v66 v67 v68 : Value) (w1 : World) (g cap : Nat), w1.ownsRow (hd + 1) 58 2 (.slice (some ⟨g, 0, none⟩) (len + 1) cap) (len + 1) (xs ++ [.pointer (some ⟨T, 0, none⟩), .int .u8 m]) → ((wr.alloc (.cells #[.pointer (some ⟨T, 0, none⟩), .int .u8 m] 58)).drew).grownBy w1 v.ownBlock →
      Q .normal ⟨#[s0, s1, s2, s3, s4, s5, s6, s7, .pointer (some ⟨hd, 0, none⟩), s9, s10, s11, s12, .pointer (some ⟨pv, 0, none⟩), s14, s15, s16, s17, s18, s19, s20, s21, s22, s23, s24, s25, s26, s27, s28, s29, s30, s31, s32, s33, s34, s35, s36, s37, s38, s39, s40, s41, s42, s43, s44, s45, s46, s47, s48, s49, s50, s51, s52, s53, s54, s55, s56, v57, v58, v59, v60, v61, v62, v63, v64, v65, v66, v67, v68, s69, s70, s71, s72, s73, s74, s75, s76, s77, s78, s79, s80, s81, s82, s83, s84, s85, s86, s87, s88, s89, s90, s91, s92, s93, s94, s95, s96, s97, s98, s99, s100, s101, s102, s103, s104, s105, s106, s107, s108, s109, s110, s111, s112, s113, s114, s115, s116, s117, s118, s119, s120, s121, s122, s123], []⟩ (w1.setCell ⟨hd, 0, none⟩ (.slice (some ⟨g, 0, none⟩) (len + 1) cap))) :
    Code.wp Yba.prog ((Yba.f11.body.bind (findRegion 15)).getD .skip) Q ⟨#[s0, s1, s2, s3, s4, s5, s6, s7, .pointer (some ⟨hd, 0, none⟩), s9, s10, s11, s12, .pointer (some ⟨pv, 0, none⟩), s14, s15, s16, s17, s18, s19, s20, s21, s22, s23, s24, s25, s26, s27, s28, s29, s30, s31, s32, s33, s34, s35, s36, s37, s38, s39, s40, s41, s42, s43, s44, s45, s46, s47, s48, s49, s50, s51, s52, s53, s54, s55, s56, s57, s58, s59, s60, s61, s62, s63, s64, s65, s66, s67, s68, s69, s70, s71, s72, s73, s74, s75, s76, s77, s78, s79, s80, s81, s82, s83, s84, s85, s86, s87, s88, s89, s90, s91, s92, s93, s94, s95, s96, s97, s98, s99, s100, s101, s102, s103, s104, s105, s106, s107, s108, s109, s110, s111, s112, s113, s114, s115, s116, s117, s118, s119, s120, s121, s122, s123], []⟩ wr := by
  have l1 := lt_of_cell x1
  have l3 := lt_of_cell x3
  have l4 := lt_of_cell x4
  have hbC : Below wr.heap.size wr ((wr.alloc (.cells #[.pointer (some ⟨T, 0, none⟩), .int .u8 m] 58)).drew) := ((Below.refl _ _).alloc (Nat.le_refl _) _).drew
  have hfar : ∀ w1, ((wr.alloc (.cells #[.pointer (some ⟨T, 0, none⟩), .int .u8 m] 58)).drew).grownBy w1 v.ownBlock → w1.cell? ⟨hd, 0, none⟩ = some v ∧ w1.frozen? ⟨hd, 0, none⟩ = false := fun w1 hg => by
    have hh : hd < ((wr.alloc (.cells #[.pointer (some ⟨T, 0, none⟩), .int .u8 m] 58)).drew).heap.size := by simp; omega
    have hne : some hd ≠ v.ownBlock := fun e => by have := hown.lt hd e.symm; omega
    exact ⟨(hg.cell_far ⟨hd, 0, none⟩ hh hne).trans (cell_keep hbC l1 x1), (hg.frozen_far ⟨hd, 0, none⟩ hh hne).trans ((hbC.frozen (p := ⟨hd, 0, none⟩) l1).trans x2)⟩
  have hnew : ∀ (j : Nat) (u : Value), [Value.pointer (some ⟨T, 0, none⟩), Value.int .u8 m][j]? = some u → ((wr.alloc (.cells #[.pointer (some ⟨T, 0, none⟩), .int .u8 m] 58)).drew).cell? ((⟨wr.heap.size, 0, none⟩ : Addr).add j) = some u := World.news_of_block (blk_alloc_new _ _)
  have hone : ∀ u ∈ [Value.pointer (some ⟨T, 0, none⟩), Value.int .u8 m], u.oneCell' = true := by intro u hu; simp at hu; rcases hu with rfl | rfl <;> rfl
  have h63 : len + 1 ≤ maxLen := by unfold maxLen; omega
  have hbase : hd + 1 ≤ ((wr.alloc (.cells #[.pointer (some ⟨T, 0, none⟩), .int .u8 m] 58)).drew).heap.size := by simp; omega
  obtain ⟨i0, hi0, hz0, hz1, hz2⟩ := info_parts info58
  conv => arg 2; whnf
  refine wp_region_noPanic ?_
  go_region_law ((refine step_append_lies _ (by rfl) (.tmp 57) (.tmp 67) 49 (by rfl) (hd + 1) 58 i0 (.agg #[.pointer none, .int .u8 0]) 2 16 Yba.underlying49 hi0 hz0 hz1 hz2 rfl (by omega) v len xs (by rfl) (hown.alloc _) ⟨wr.heap.size, 0, none⟩ 1 1 [.pointer (some ⟨T, 0, none⟩), .int .u8 m] (by rfl) (by rfl) hnew hone (by omega) h63 (by omega) hbase (wr.heap.size + 1) (by simp) ?_; intro g cap w1 hown1 hgrow hat hlt1; obtain ⟨p1, p2⟩ := hfar w1 hgrow))
  all_goals exact NoPanic.normal (hQ _ _ _ _ _ _ _ _ _ _ _ _ _ _ _ (by assumption) (by assumption))

end Go.Proofs.Ybulkecuo.B
