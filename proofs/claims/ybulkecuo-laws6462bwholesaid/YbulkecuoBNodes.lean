import Derived.Test.YbulkecuoBReqR
import Derived.Test.YbulkecuoBCame
namespace Go.Proofs.Ybulkecuo.B
set_option linter.unusedVariables false
set_option linter.unusedSimpArgs false
open Go.RowKit Go.Deep

/-- A request. -/
def reqC (T R : Nat) (m : Int) (nx : Value) : Array Value := #[.pointer (some ⟨T, 0, none⟩), .pointer (some ⟨R, 0, none⟩), .int .u8 m, .bool false, .pointer none, nx, .bool false, .slice none 0 0]

/-- The requests, k of them made. -/
structure Nodes (w2 wr : World) (NB T0 R n k : Nat) (T M : Nat → Int) : Prop where
  below : Below NB w2 wr
  size : wr.heap.size = NB + 1 + 2 * k
  nodes : wr.rowIs NB 26 n (fun j => if j < k then P (NB + 2 + 2 * j) else .pointer none)
  req : ∀ j, j < k → wr.heap[NB + 2 + 2 * j]? = some (.cells (reqC (T0 + (T j % 8).toNat) R (M j % 3) (.pointer none)) 61 (0, 0))

theorem nodes_zero (w2 : World) (NB T0 R n : Nat) (T M : Nat → Int) (hNB : NB = w2.heap.size) : Nodes w2 (w2.alloc (.cells (madeCells #[.pointer none] n) 26)) NB T0 R n 0 T M := by
  subst hNB
  refine ⟨(Below.refl _ _).alloc (Nat.le_refl _) _, by rw [nblk_alloc], ?_, fun j hj => absurd hj (by omega)⟩
  exact (World.rowIs_made w2 (.pointer none) n 26).congr fun i _ => by simp

theorem nodes_step {w2 wr : World} {NB T0 R n k : Nat} {T M : Nat → Int} (h : Nodes w2 wr NB T0 R n k T M) (c : Array Value) (i : Nat) (m : Int) (hi : T k % 8 = (i : Int)) (hm : M k = m) :
    Nodes w2 ((((wr.alloc (.cells c 54)).setCell ⟨NB, k, none⟩ (.pointer (some ⟨(wr.alloc (.cells c 54)).heap.size, 0, none⟩))).alloc (.cells (reqC (T0 + i) R (m % 3) (.pointer none)) 61)).drew) NB T0 R n (k + 1) T M := by
  have hs := h.size
  have s1 : (wr.alloc (.cells c 54)).heap.size = NB + 2 + 2 * k := by rw [nblk_alloc]; omega
  have s2 : ((wr.alloc (.cells c 54)).setCell ⟨NB, k, none⟩ (.pointer (some ⟨(wr.alloc (.cells c 54)).heap.size, 0, none⟩))).heap.size = NB + 2 + 2 * k := by rw [nblk_setCell]; exact s1
  refine ⟨(((h.below.alloc (by omega) _).setCell (by simp) _).alloc (by omega) _).drew, ?_, ?_, fun j hj => ?_⟩
  · show (World.alloc _ _).heap.size = _
    rw [nblk_alloc, s2]; omega
  · have h1 := (((h.nodes.alloc (.cells c 54)).set k (.pointer (some ⟨(wr.alloc (.cells c 54)).heap.size, 0, none⟩))).alloc (.cells (reqC (T0 + i) R (m % 3) (.pointer none)) 61)).drew
    refine h1.congr fun j _ => ?_
    by_cases e : j = k
    · subst e; simp [s1, P]
    · by_cases h1 : j < k
      · simp [e, h1, show j < k + 1 from by omega]
      · simp [e, h1, show ¬ j < k + 1 from by omega]
  · show (World.alloc _ _).heap[_]? = _
    by_cases e : j = k
    · subst e
      rw [hi, Int.toNat_natCast, hm, ← s2]
      exact blk_alloc_new _ _
    · rw [blk_alloc_lt _ _ _ (by omega), blk_setCell_other _ _ _ _ (by simp; omega), blk_alloc_lt _ _ _ (by omega)]
      exact h.req j (by omega)

set_option maxRecDepth 1000000 in
set_option maxHeartbeats 4000000 in
/-- The requests are made. -/
theorem loop3 (w2 wr : World) (gb R NB n c1 : Nat) (a1 : Option Addr) (T M : Nat → Int) (hc : Came2 w2 a1 n T M) (hNB : NB = w2.heap.size) (hg : gb + 1 < NB) (hpool : ∀ i, i < 8 → w2.cell? ⟨gb + 1, i, none⟩ = some (.pointer (some ⟨gb + 2 + i, 0, none⟩))) (hn : n ≤ 65536) (bT : ∀ i, 0 ≤ T i ∧ T i ≤ 255) (bM : ∀ i, 0 ≤ M i ∧ M i ≤ 255) (h0 : Nodes w2 wr NB (gb + 2) R n 0 T M)
    (Q : Exit → Act → World → Prop) (s0 s1 s2 s3 s4 s5 s6 s7 s8 s10 s12 s13 s15 s16 s17 s18 s19 s20 s21 s22 s23 s24 s25 s26 s27 s28 s29 s30 s31 s32 s33 s34 s35 s36 s37 s38 s39 s40 s41 s42 s43 s44 s45 s46 s47 s48 s49 s50 s51 s52 s53 s54 s55 s56 s57 s58 s59 s60 s61 s62 s63 s64 s65 s66 s67 s68 s69 s70 s71 s72 s73 s74 s75 s76 s77 s78 s79 s80 s81 s82 s83 s84 s85 s86 s87 s88 s89 s93 s94 s95 s96 s97 s98 s99 s100 s101 s102 s103 s104 s105 s106 s107 s108 s109 s110 s111 s112 s113 s114 s115 s116 s117 s118 s119 s120 s121 s122 s123 s124 s125 s126 s127 s128 s129 s130 s131 s132 s133 s134 s135 s136 s137 s138 s139 s140 s141 s142 s143 s144 s145 s146 s147 s148 s149 s150 s151 s152 s153 s154 s155 s156 s157 s158 s159 s160 s161 s162 s163 s164 s165 s166 s167 s168 s169 s170 s171 s172 s173 s174 s175 s176 s177 s178 s179 s180 s181 s182 s183 s184 s185 s186 s187 s188 s189 s190 s191 s192 s193 s194 s195 s196 s197 s198 s199 s200 s201 s202 s203 s204 s205 s206 s207 s208 s209 s210 s211 s212 s213 s214 s215 s216 s217 s218 s219 s220 s221 s222 s223 s224 s225 s226 s227 s228 s229 s230 s231 s232 s233 s234 s235 s236 s237 s238 s239 s240 s241 s242 s243 s244 s245 s246 s247 s248 s249 s250 s251 s252 s253 s254 s255 s256 s257 s258 s259 s260 s261 s262 s263 s264 s265 s266 s267 s268 s269 s270 s271 s272 s273 s274 s275 s276 s277 s278 s279 s280 s281 s282 s283 s284 s285 s286 s287 s288 s289 s290 s291 s292 s293 s294 s295 s296 s297 s298 s299 s300 s301 s302 s303 s304 s305 s306 s307 s308 s309 s310 s311 s312 s313 s314 s315 s316 s317 s318 s319 s320 s321 s322 s323 s324 s325 s326 s327 s328 s329 s330 s331 s332 s333 s334 s335 s336 s337 s338 s339 s340 s341 s342 s343 s344 s345 s346 s347 s348 s349 s350 s351 s352 s353 s354 s355 s356 s357 s358 s359 s360 s361 s362 s363 s364 s365 s366 s367 s368 s369 s370 s371 s372 s373 s374 s375 s376 s377 s378 s379 s380 s381 s382 s383 s384 s385 s386 s387 s388 s389 s390 s391 s392 s393 s394 s395 s396 s397 s398 s399 s400 s401 s402 s403 s404 s405 s406 s407 : Value)
    (hQ : ∀ (v15 v16 v92 v93 v94 v95 v96 v97 v98 v99 v100 v101 v102 v103 v104 v105 v106 v107 v108 v109 v110 v111 : Value) (w1 : World), Nodes w2 w1 NB (gb + 2) R n n T M → Q .normal ⟨#[s0, s1, s2, s3, s4, s5, s6, s7, s8, .pointer (some ⟨gb + 1, 0, none⟩), s10, .pointer (some ⟨R, 0, none⟩), s12, s13, .slice (some ⟨NB, 0, none⟩) n n, v15, v16, s17, s18, s19, s20, s21, s22, s23, s24, s25, s26, s27, s28, s29, s30, s31, s32, s33, s34, s35, s36, s37, s38, s39, s40, s41, s42, s43, s44, s45, s46, s47, s48, s49, s50, s51, s52, s53, s54, s55, s56, s57, s58, s59, s60, s61, s62, s63, s64, s65, s66, s67, s68, s69, s70, s71, s72, s73, s74, s75, s76, s77, s78, s79, s80, s81, s82, s83, s84, s85, s86, s87, s88, s89, .slice a1 n c1, .int .i64 (n : Int), v92, v93, v94, v95, v96, v97, v98, v99, v100, v101, v102, v103, v104, v105, v106, v107, v108, v109, v110, v111, s112, s113, s114, s115, s116, s117, s118, s119, s120, s121, s122, s123, s124, s125, s126, s127, s128, s129, s130, s131, s132, s133, s134, s135, s136, s137, s138, s139, s140, s141, s142, s143, s144, s145, s146, s147, s148, s149, s150, s151, s152, s153, s154, s155, s156, s157, s158, s159, s160, s161, s162, s163, s164, s165, s166, s167, s168, s169, s170, s171, s172, s173, s174, s175, s176, s177, s178, s179, s180, s181, s182, s183, s184, s185, s186, s187, s188, s189, s190, s191, s192, s193, s194, s195, s196, s197, s198, s199, s200, s201, s202, s203, s204, s205, s206, s207, s208, s209, s210, s211, s212, s213, s214, s215, s216, s217, s218, s219, s220, s221, s222, s223, s224, s225, s226, s227, s228, s229, s230, s231, s232, s233, s234, s235, s236, s237, s238, s239, s240, s241, s242, s243, s244, s245, s246, s247, s248, s249, s250, s251, s252, s253, s254, s255, s256, s257, s258, s259, s260, s261, s262, s263, s264, s265, s266, s267, s268, s269, s270, s271, s272, s273, s274, s275, s276, s277, s278, s279, s280, s281, s282, s283, s284, s285, s286, s287, s288, s289, s290, s291, s292, s293, s294, s295, s296, s297, s298, s299, s300, s301, s302, s303, s304, s305, s306, s307, s308, s309, s310, s311, s312, s313, s314, s315, s316, s317, s318, s319, s320, s321, s322, s323, s324, s325, s326, s327, s328, s329, s330, s331, s332, s333, s334, s335, s336, s337, s338, s339, s340, s341, s342, s343, s344, s345, s346, s347, s348, s349, s350, s351, s352, s353, s354, s355, s356, s357, s358, s359, s360, s361, s362, s363, s364, s365, s366, s367, s368, s369, s370, s371, s372, s373, s374, s375, s376, s377, s378, s379, s380, s381, s382, s383, s384, s385, s386, s387, s388, s389, s390, s391, s392, s393, s394, s395, s396, s397, s398, s399, s400, s401, s402, s403, s404, s405, s406, s407], []⟩ w1) :
    Code.wp Yba.prog ((Yba.f4.body.bind (findLoop 19)).getD .skip) (Exit.inBlock 4 Q) ⟨#[s0, s1, s2, s3, s4, s5, s6, s7, s8, .pointer (some ⟨gb + 1, 0, none⟩), s10, .pointer (some ⟨R, 0, none⟩), s12, s13, .slice (some ⟨NB, 0, none⟩) n n, s15, s16, s17, s18, s19, s20, s21, s22, s23, s24, s25, s26, s27, s28, s29, s30, s31, s32, s33, s34, s35, s36, s37, s38, s39, s40, s41, s42, s43, s44, s45, s46, s47, s48, s49, s50, s51, s52, s53, s54, s55, s56, s57, s58, s59, s60, s61, s62, s63, s64, s65, s66, s67, s68, s69, s70, s71, s72, s73, s74, s75, s76, s77, s78, s79, s80, s81, s82, s83, s84, s85, s86, s87, s88, s89, .slice a1 n c1, .int .i64 (n : Int), .int .i64 0, s93, s94, s95, s96, s97, s98, s99, s100, s101, s102, s103, s104, s105, s106, s107, s108, s109, s110, s111, s112, s113, s114, s115, s116, s117, s118, s119, s120, s121, s122, s123, s124, s125, s126, s127, s128, s129, s130, s131, s132, s133, s134, s135, s136, s137, s138, s139, s140, s141, s142, s143, s144, s145, s146, s147, s148, s149, s150, s151, s152, s153, s154, s155, s156, s157, s158, s159, s160, s161, s162, s163, s164, s165, s166, s167, s168, s169, s170, s171, s172, s173, s174, s175, s176, s177, s178, s179, s180, s181, s182, s183, s184, s185, s186, s187, s188, s189, s190, s191, s192, s193, s194, s195, s196, s197, s198, s199, s200, s201, s202, s203, s204, s205, s206, s207, s208, s209, s210, s211, s212, s213, s214, s215, s216, s217, s218, s219, s220, s221, s222, s223, s224, s225, s226, s227, s228, s229, s230, s231, s232, s233, s234, s235, s236, s237, s238, s239, s240, s241, s242, s243, s244, s245, s246, s247, s248, s249, s250, s251, s252, s253, s254, s255, s256, s257, s258, s259, s260, s261, s262, s263, s264, s265, s266, s267, s268, s269, s270, s271, s272, s273, s274, s275, s276, s277, s278, s279, s280, s281, s282, s283, s284, s285, s286, s287, s288, s289, s290, s291, s292, s293, s294, s295, s296, s297, s298, s299, s300, s301, s302, s303, s304, s305, s306, s307, s308, s309, s310, s311, s312, s313, s314, s315, s316, s317, s318, s319, s320, s321, s322, s323, s324, s325, s326, s327, s328, s329, s330, s331, s332, s333, s334, s335, s336, s337, s338, s339, s340, s341, s342, s343, s344, s345, s346, s347, s348, s349, s350, s351, s352, s353, s354, s355, s356, s357, s358, s359, s360, s361, s362, s363, s364, s365, s366, s367, s368, s369, s370, s371, s372, s373, s374, s375, s376, s377, s378, s379, s380, s381, s382, s383, s384, s385, s386, s387, s388, s389, s390, s391, s392, s393, s394, s395, s396, s397, s398, s399, s400, s401, s402, s403, s404, s405, s406, s407], []⟩ wr := by
  have HNB := hid hNB
  have hle1 : w2.heap.size ≤ NB := by omega
  have hle2 : NB ≤ w2.heap.size := by omega
  clear hNB
  conv => arg 2; whnf
  conv => arg 4; dsimp only
  go_loopw [92] (fun i wr => ∃ k : Nat, k ≤ n ∧ i = .int .i64 k ∧ Nodes w2 wr NB (gb + 2) R n k T M) (fun i _ => n - (intOf i).toNat)
  case atStart => exact ⟨0, Nat.zero_le _, rfl, h0⟩
  case round =>
    clear h0
    obtain ⟨k, hk, rfl, hN⟩ := hrel
    by_cases hlt : k < n
    · obtain ⟨b, off, rfl, hcs⟩ := hc k hlt
      have hck := hcs k hlt
      have lb := lt_of_cell hck.1
      have Hsz := hid hN.size
      have hsz1 : NB + 1 + 2 * k ≤ wr.heap.size := by have := Hsz.out; omega
      have hbw : Below w2.heap.size w2 wr := by rw [← HNB.out]; exact hN.below
      have d0 := cell_keep hbw lb hck.1
      have d1 := cell_keep hbw lb hck.2
      obtain ⟨tt, ett⟩ : ∃ tt, tt = T k := ⟨_, rfl⟩
      obtain ⟨mm, emm⟩ : ∃ mm, mm = M k := ⟨_, rfl⟩
      have bt := bT k
      have bm := bM k
      obtain ⟨i, hi⟩ : ∃ i : Nat, (T k % 8) = (i : Int) := ⟨(T k % 8).toNat, by omega⟩
      have hi8 : i < 8 := by omega
      have HX := hid (nodes_step (R := R) hN #[.int .u8 tt, .int .u8 mm] i mm hi emm.symm)
      rw [← ett] at d0 bt hi
      rw [← emm] at d1 bm
      clear ett emm hck hcs
      have hbA : Below wr.heap.size wr (wr.alloc (.cells #[.int .u8 tt, .int .u8 mm] 54)) := (Below.refl _ _).alloc (Nat.le_refl _) _
      have hpc := hpool i hi8
      have hpl := lt_of_cell hpc
      have hpcA := cell_keep hbA (by omega) (cell_keep hbw hpl hpc)
      have q1 := hN.nodes.cell hlt
      simp only [Nat.lt_irrefl, if_false] at q1
      have q1A := cell_keep hbA (by omega) q1
      have q2A : (wr.alloc (.cells #[.int .u8 tt, .int .u8 mm] 54)).frozen? ⟨NB, k, none⟩ = false := (hbA.frozen (p := ⟨NB, k, none⟩) (by show NB < _; omega)).trans (hN.nodes.frozen k)
      have e0 : (wr.alloc (.cells #[.int .u8 tt, .int .u8 mm] 54)).cell? ⟨wr.heap.size, 0, none⟩ = some (.int .u8 tt) := by simp
      have e1 : (wr.alloc (.cells #[.int .u8 tt, .int .u8 mm] 54)).cell? ⟨wr.heap.size, 1, none⟩ = some (.int .u8 mm) := by simp
      have i0 : (0 : Int) ≤ (k : Int) := by omega
      have i1 : (k : Int) < (n : Int) := by omega
      have lbw : b < wr.heap.size := lt_of_cell d0
      clear hN hbA hbw hpc q1
      go_wp2_with fail
      refine reqRegion (wr.alloc (.cells #[.int .u8 tt, .int .u8 mm] 54)) R (gb + 1) wr.heap.size NB (gb + 2 + i) i k n tt mm hlt bt bm hi hi8 (by omega) (by omega) _ q1A q2A hpcA e0 e1 _ _ _ _ _ _ _ _ _ _ _ _ _ _ _ _ _ _ _ _ _ _ _ _ _ _ _ _ _ _ _ _ _ _ _ _ _ _ _ _ _ _ _ _ _ _ _ _ _ _ _ _ _ _ _ _ _ _ _ _ _ _ _ _ _ _ _ _ _ _ _ _ _ _ _ _ _ _ _ _ _ _ _ _ _ _ _ _ _ _ _ _ _ _ _ _ _ _ _ _ _ _ _ _ _ _ _ _ _ _ _ _ _ _ _ _ _ _ _ _ _ _ _ _ _ _ _ _ _ _ _ _ _ _ _ _ _ _ _ _ _ _ _ _ _ _ _ _ _ _ _ _ _ _ _ _ _ _ _ _ _ _ _ _ _ _ _ _ _ _ _ _ _ _ _ _ _ _ _ _ _ _ _ _ _ _ _ _ _ _ _ _ _ _ _ _ _ _ _ _ _ _ _ _ _ _ _ _ _ _ _ _ _ _ _ _ _ _ _ _ _ _ _ _ _ _ _ _ _ _ _ _ _ _ _ _ _ _ _ _ _ _ _ _ _ _ _ _ _ _ _ _ _ _ _ _ _ _ _ _ _ _ _ _ _ _ _ _ _ _ _ _ _ _ _ _ _ _ _ _ _ _ _ _ _ _ _ _ _ _ _ _ _ _ _ _ _ _ _ _ _ _ _ _ _ _ _ _ _ _ _ _ _ _ _ _ _ _ _ _ _ _ _ _ _ _ _ _ _ _ _ _ _ _ _ _ _ _ _ _ _ _ _ _ _ _ _ _ _ _ _ _ _ _ _ _ _ _ _ _ _ _ _ _ _ _ _ _ _ _ _ _ _ _ _ _ _ _ _ _ _ _ _ _ _ _ _ _ _ _ _ _ _ _ _ _ _ _ _ _ _ _ _ _ ?_
      intro y97 y98 y99 y100 y101 y102 y103 y104 y105 y106 y107 y108 y109 y110
      obtain ⟨W, hW⟩ : ∃ W, W = ((((wr.alloc (.cells #[.int .u8 tt, .int .u8 mm] 54)).setCell ⟨NB, k, none⟩ (.pointer (some ⟨(wr.alloc (.cells #[.int .u8 tt, .int .u8 mm] 54)).heap.size, 0, none⟩))).alloc (.cells (reqC (gb + 2 + i) R (mm % 3) (.pointer none)) 61)).drew) := ⟨_, rfl⟩
      rw [← hW] at HX
      unfold reqC at hW
      rw [← hW]
      clear hW e0 e1 hpcA q1A q2A d0 d1 bt bm hi
      go_wp2
      go_roundw
      case rel => exact ⟨k + 1, by omega, by go_num, HX.out⟩
      case measure => simp [intOf]; omega
    · have hk0 : n = k := by omega
      subst hk0
      go_wp2
      exact hN

end Go.Proofs.Ybulkecuo.B
