import Derived.Test.YbulkecuoCStage
import Derived.Deep.RegionLaw
import Derived.Deep.DrawnRows
namespace Go.Proofs.Ybulkecuo.C
open Go.RowKit
attribute [local go_sem ↓] Go.wp_at_zero Go.wp_at_succ

/-- The region of that number in a function's text. -/
def findRegion (n : Nat) : Code → Option Code
  | .region k ops b => if k = n then some (.region k ops b) else none
  | .seq a b => match findRegion n a with
    | some c => some c
    | none => findRegion n b
  | .block _ c => findRegion n c
  | .loop c => findRegion n c
  | .scope c => findRegion n c
  | .cond _ a b => match findRegion n a with
    | some c => some c
    | none => findRegion n b
  | _ => none

set_option maxRecDepth 1000000 in
set_option maxHeartbeats 4000000 in
/-- 'txns[a].blockers = append(txns[a].blockers, txns[e])', in whatever order. -/
theorem region23 (w wr : World) (N1 N2 N3 M kk a e TA TE : Nat) (S : Nat → Int) (Bv : Nat → Value) (L : Nat → List Nat) (hS : Stage3 w wr N1 N2 N3 (N3 + 1) M kk S Bv L) (L2 : N1 < N2) (L3 : N2 < N3) (haM : a < M) (heM : e < M) (hkk : kk ≤ 65536)
    (hTA : TA = N3 + 1 + 3 * a) (hTE : TE = N3 + 1 + 3 * e) (Q : Exit → Act → World → Prop)
    (s0 s1 s2 s3 s4 s5 s6 s7 s8 s9 s10 s11 s12 s13 s14 s15 s17 s18 s19 s20 s21 s24 s25 s26 s27 s28 s29 s30 s31 s32 s33 s34 s35 s36 s37 s38 s39 s40 s41 s42 s43 s44 s45 s46 s47 s48 s49 s50 s51 s52 s53 s54 s55 s56 s57 s58 s59 s60 s61 s62 s63 s64 s65 s66 s67 s68 s69 s70 s71 s72 s73 s74 s75 s76 s77 s78 s79 s80 s81 s82 s83 s84 s85 s86 s87 s88 s89 s90 s91 s92 s93 s94 s95 s96 s97 s98 s99 s100 s101 s102 s103 s104 s105 s106 s107 s108 s109 s110 s111 s112 s113 s114 s115 s116 s117 s118 s119 s120 s121 s122 s123 s124 s125 s126 s127 s128 s129 s130 s131 s132 s133 s134 s135 s136 s137 s138 s139 s140 s141 s142 s143 s144 s145 s146 s147 s148 s149 s150 s151 s152 s153 s154 s155 s156 s157 s158 s159 s160 s161 s162 s163 s164 s165 s166 s167 s168 s169 s170 s171 s172 s173 s174 s175 s176 s177 s178 s179 s180 s181 s182 s183 s184 s185 s186 s187 s188 s189 s190 s191 s192 s193 s194 s195 s196 s197 s198 s199 s200 s201 s202 s203 s204 s205 s206 s207 s208 s209 s210 s211 s212 s213 s214 s215 s216 s217 s218 s219 s220 s221 s222 s223 s224 s225 s226 s227 s228 s229 s230 s231 s232 s233 s234 s235 s236 s237 s238 s239 s240 s241 s242 s243 s244 s245 s246 s247 s248 s249 s250 s251 s252 s253 s254 s255 s256 s257 s258 s259 s260 s261 s262 s263 s264 s265 s266 s267 s268 s269 s270 s271 s272 s273 s274 s275 s276 s277 s278 s279 s280 s281 s282 s283 s284 s285 s286 s287 s288 s289 : Value)
    (hQ : ∀ (v116 v117 v118 v119 v120 v121 v122 v123 v124 v125 v126 v127 v128 v129 v130 v131 v132 v133 v134 : Value) (w1 : World) (g cap : Nat), w1.ownsRow (N3 + 1 + 3 * M) 47 1 (.slice (some ⟨g, 0, none⟩) ((L a).length + 1) cap) ((L a).length + 1) ((((L a).map fun q => N3 + 1 + 3 * q).map P) ++ [P TE]) → ((wr.alloc (.cells #[.pointer (some ⟨TE, 0, none⟩)] 47)).drew).grownBy w1 (Bv a).ownBlock → ((Bv a).ownBlock = some g ∨ g = wr.heap.size + 1) →
      Q .normal ⟨#[s0, s1, s2, s3, s4, s5, s6, s7, s8, s9, s10, s11, s12, s13, s14, s15, .slice (some ⟨N1, 0, none⟩) M M, s17, s18, s19, s20, s21, .int .i64 (a : Int), .int .i64 (e : Int), s24, s25, s26, s27, s28, s29, s30, s31, s32, s33, s34, s35, s36, s37, s38, s39, s40, s41, s42, s43, s44, s45, s46, s47, s48, s49, s50, s51, s52, s53, s54, s55, s56, s57, s58, s59, s60, s61, s62, s63, s64, s65, s66, s67, s68, s69, s70, s71, s72, s73, s74, s75, s76, s77, s78, s79, s80, s81, s82, s83, s84, s85, s86, s87, s88, s89, s90, s91, s92, s93, s94, s95, s96, s97, s98, s99, s100, s101, s102, s103, s104, s105, s106, s107, s108, s109, s110, s111, s112, s113, s114, s115, v116, v117, v118, v119, v120, v121, v122, v123, v124, v125, v126, v127, v128, v129, v130, v131, v132, v133, v134, s135, s136, s137, s138, s139, s140, s141, s142, s143, s144, s145, s146, s147, s148, s149, s150, s151, s152, s153, s154, s155, s156, s157, s158, s159, s160, s161, s162, s163, s164, s165, s166, s167, s168, s169, s170, s171, s172, s173, s174, s175, s176, s177, s178, s179, s180, s181, s182, s183, s184, s185, s186, s187, s188, s189, s190, s191, s192, s193, s194, s195, s196, s197, s198, s199, s200, s201, s202, s203, s204, s205, s206, s207, s208, s209, s210, s211, s212, s213, s214, s215, s216, s217, s218, s219, s220, s221, s222, s223, s224, s225, s226, s227, s228, s229, s230, s231, s232, s233, s234, s235, s236, s237, s238, s239, s240, s241, s242, s243, s244, s245, s246, s247, s248, s249, s250, s251, s252, s253, s254, s255, s256, s257, s258, s259, s260, s261, s262, s263, s264, s265, s266, s267, s268, s269, s270, s271, s272, s273, s274, s275, s276, s277, s278, s279, s280, s281, s282, s283, s284, s285, s286, s287, s288, s289], []⟩ (w1.setCell ⟨TA, 8, none⟩ (.slice (some ⟨g, 0, none⟩) ((L a).length + 1) cap))) :
    Code.wp Yba.prog ((Yba.f5.body.bind (findRegion 23)).getD .skip) Q ⟨#[s0, s1, s2, s3, s4, s5, s6, s7, s8, s9, s10, s11, s12, s13, s14, s15, .slice (some ⟨N1, 0, none⟩) M M, s17, s18, s19, s20, s21, .int .i64 (a : Int), .int .i64 (e : Int), s24, s25, s26, s27, s28, s29, s30, s31, s32, s33, s34, s35, s36, s37, s38, s39, s40, s41, s42, s43, s44, s45, s46, s47, s48, s49, s50, s51, s52, s53, s54, s55, s56, s57, s58, s59, s60, s61, s62, s63, s64, s65, s66, s67, s68, s69, s70, s71, s72, s73, s74, s75, s76, s77, s78, s79, s80, s81, s82, s83, s84, s85, s86, s87, s88, s89, s90, s91, s92, s93, s94, s95, s96, s97, s98, s99, s100, s101, s102, s103, s104, s105, s106, s107, s108, s109, s110, s111, s112, s113, s114, s115, s116, s117, s118, s119, s120, s121, s122, s123, s124, s125, s126, s127, s128, s129, s130, s131, s132, s133, s134, s135, s136, s137, s138, s139, s140, s141, s142, s143, s144, s145, s146, s147, s148, s149, s150, s151, s152, s153, s154, s155, s156, s157, s158, s159, s160, s161, s162, s163, s164, s165, s166, s167, s168, s169, s170, s171, s172, s173, s174, s175, s176, s177, s178, s179, s180, s181, s182, s183, s184, s185, s186, s187, s188, s189, s190, s191, s192, s193, s194, s195, s196, s197, s198, s199, s200, s201, s202, s203, s204, s205, s206, s207, s208, s209, s210, s211, s212, s213, s214, s215, s216, s217, s218, s219, s220, s221, s222, s223, s224, s225, s226, s227, s228, s229, s230, s231, s232, s233, s234, s235, s236, s237, s238, s239, s240, s241, s242, s243, s244, s245, s246, s247, s248, s249, s250, s251, s252, s253, s254, s255, s256, s257, s258, s259, s260, s261, s262, s263, s264, s265, s266, s267, s268, s269, s270, s271, s272, s273, s274, s275, s276, s277, s278, s279, s280, s281, s282, s283, s284, s285, s286, s287, s288, s289], []⟩ wr := by
  have x1 := hS.tx.cell haM
  have x2 := hS.tx.cell heM
  have x3 := (hS.txs a haM).cell (i := 8) (by omega)
  have x4 := (hS.txs a haM).frozen 8
  simp only [if_pos] at x3
  unfold P at x1 x2
  have hszB := hS.size
  have hown := hS.own a haM
  have hlen := hS.len a haM
  rw [← hTA] at x1 x3 x4
  rw [← hTE] at x2
  have hfar : ∀ w1, ((wr.alloc (.cells #[.pointer (some ⟨TE, 0, none⟩)] 47)).drew).grownBy w1 (Bv a).ownBlock → w1.cell? ⟨N1, a, none⟩ = some (.pointer (some ⟨TA, 0, none⟩)) ∧ w1.cell? ⟨TA, 8, none⟩ = some (Bv a) ∧ w1.frozen? ⟨TA, 8, none⟩ = false := fun w1 hg => by
    have hne : ∀ x, x < N3 + 1 + 3 * M → w1.heap[x]? = wr.heap[x]? := fun x hx => by
      rw [hg.block x (by show x < (wr.alloc _).heap.size; rw [Go.Deep.nblk_alloc]; omega) (fun e => by have := hown.lt x e.symm; omega)]
      exact Go.Deep.blk_alloc_lt _ _ _ (by omega)
    refine ⟨?_, ?_, ?_⟩
    · rw [World.cell?_of_block (w := wr) (hne N1 (by omega))]; exact x1
    · rw [World.cell?_of_block (w := wr) (hne TA (by omega))]; exact x3
    · rw [World.frozen?_of_block (w := wr) (hne TA (by omega))]; exact x4
  have ia0 : (0 : Int) ≤ (a : Int) := by omega
  have ia1 : (a : Int) < (M : Int) := by omega
  have ie0 : (0 : Int) ≤ (e : Int) := by omega
  have ie1 : (e : Int) < (M : Int) := by omega
  have y1 : TA < wr.heap.size := by omega
  have y2 : N1 < wr.heap.size := by omega
  have hnew : ∀ (j : Nat) (u : Value), [P TE][j]? = some u → ((wr.alloc (.cells #[.pointer (some ⟨TE, 0, none⟩)] 47)).drew).cell? ((⟨wr.heap.size, 0, none⟩ : Addr).add j) = some u := fun j u hj => by
    match j, hj with
    | 0, hj => simp at hj; subst hj; simp [Addr.add, P]
  have h63 : (L a).length + 1 ≤ maxLen := by unfold maxLen; omega
  have hbase : N3 + 1 + 3 * M ≤ ((wr.alloc (.cells #[.pointer (some ⟨TE, 0, none⟩)] 47)).drew).heap.size := by simp; omega
  have hone : ∀ u ∈ [P TE], u.oneCell' = true := by intro u hu; simp at hu; subst hu; rfl
  obtain ⟨i0, hi0, hz0, hz1, hz2⟩ := info_parts info47
  clear hTA hTE hS
  conv => arg 2; whnf
  refine wp_region_noPanic ?_
  go_region_law ((refine step_append_lies _ (by rfl) (.tmp 126) (.tmp 131) 29 (by rfl) (N3 + 1 + 3 * M) 47 i0 (.pointer none) 1 8 Yba.underlying29 hi0 hz0 hz1 hz2 rfl (by omega) (Bv a) (L a).length (((L a).map fun q => N3 + 1 + 3 * q).map P) (by rfl) (hown.alloc _) ⟨wr.heap.size, 0, none⟩ 1 1 [P TE] (by rfl) (by rfl) hnew hone (by omega) h63 (by omega) hbase (wr.heap.size + 1) (by simp) ?_; intro g cap w1 hown1 hgrow hat hlt1; obtain ⟨p1, p2, p3⟩ := hfar w1 hgrow))
  all_goals exact NoPanic.normal (hQ _ _ _ _ _ _ _ _ _ _ _ _ _ _ _ _ _ _ _ _ _ _ (by assumption) (by assumption) (by assumption))

end Go.Proofs.Ybulkecuo.C
