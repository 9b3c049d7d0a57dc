import Derived.Test.YbulkecuoBHoldR
import Derived.Test.YbulkecuoBCame
namespace Go.Proofs.Ybulkecuo.B
set_option linter.unusedVariables false
set_option linter.unusedSimpArgs false
open Go.RowKit Go.Deep

/-- The resource. -/
def resC (v f b : Value) : Array Value := #[.string ⟨#[114]⟩, .int .i64 0, .bool false, v, .map none, f, b]
/-- The holders, k of them. -/
def hsTo (T M : Nat → Int) (k : Nat) : List (Nat × Int) := (List.range k).map fun i => ((T i % 8).toNat, M i % 3)
theorem hsTo_succ (T M : Nat → Int) (k : Nat) : hsTo T M (k + 1) = hsTo T M k ++ [((T k % 8).toNat, M k % 3)] := by simp [hsTo, List.range_succ]
theorem hsTo_length (T M : Nat → Int) (k : Nat) : (hsTo T M k).length = k := by simp [hsTo]
theorem tb_app (T0 : Nat) (l : List (Nat × Int)) (e : Nat × Int) : flat (tb T0 (l ++ [e])) = flat (tb T0 l) ++ [.pointer (some ⟨T0 + e.1, 0, none⟩), .int .u8 e.2] := by
  rw [tb_append, flat_append]; rfl

structure Hold (w1 wr : World) (R T0 : Nat) (v : Value) (l : List (Nat × Int)) : Prop where
  below : Below R w1 wr
  res : wr.heap[R]? = some (.cells (resC v (.pointer none) (.pointer none)) 52 (0, 0))
  own : wr.ownsRow (R + 1) 58 2 v l.length (flat (tb T0 l))
  nil : l = [] → v = .slice none 0 0

theorem Hold.lt {w1 wr : World} {R T0 : Nat} {v : Value} {l : List (Nat × Int)} (h : Hold w1 wr R T0 v l) : R < wr.heap.size := (Array.getElem?_eq_some_iff.1 h.res).1
theorem Hold.cell {w1 wr : World} {R T0 : Nat} {v : Value} {l : List (Nat × Int)} (h : Hold w1 wr R T0 v l) : wr.cell? ⟨R, 3, none⟩ = some v := by
  simp [World.cell?, h.res, resC]
theorem Hold.frozen {w1 wr : World} {R T0 : Nat} {v : Value} {l : List (Nat × Int)} (h : Hold w1 wr R T0 v l) : wr.frozen? ⟨R, 3, none⟩ = false := by
  simp [World.frozen?, h.res]
theorem Hold.keep {w1 wr wx : World} {R T0 : Nat} {v : Value} {l : List (Nat × Int)} (h : Hold w1 wr R T0 v l) (hb : Below wr.heap.size wr wx) : Hold w1 wx R T0 v l :=
  ⟨h.below.trans (hb.mono (Nat.le_of_lt h.lt)), (hb.block R h.lt).trans h.res, own_keep hb h.own, h.nil⟩
theorem Hold.add {w1 wr wx wz : World} {R T0 g cap : Nat} {v : Value} {l : List (Nat × Int)} (h : Hold w1 wr R T0 v l) (hb : Below wr.heap.size wr wx) (e : Nat × Int)
    (hown : wz.ownsRow (R + 1) 58 2 (.slice (some ⟨g, 0, none⟩) (l.length + 1) cap) (l.length + 1) (flat (tb T0 l) ++ [.pointer (some ⟨T0 + e.1, 0, none⟩), .int .u8 e.2])) (hgrow : wx.grownBy wz v.ownBlock) :
    Hold w1 (wz.setCell ⟨R, 3, none⟩ (.slice (some ⟨g, 0, none⟩) (l.length + 1) cap)) R T0 (.slice (some ⟨g, 0, none⟩) (l.length + 1) cap) (l ++ [e]) := by
  have hx := h.keep hb
  have hlow : ∀ k, k ≤ R → wz.heap[k]? = wx.heap[k]? := fun k hk => hgrow.block k (by have := hx.lt; omega) (fun e => by have := hx.own.lt k e.symm; omega)
  refine ⟨⟨?_, ?_, ?_, ?_, ?_⟩, ?_, ?_, fun e => absurd e (by simp)⟩
  · exact (hgrow.os).trans hx.below.os
  · exact (hgrow.tape).trans hx.below.tape
  · exact (hgrow.output).trans hx.below.output
  · rw [nblk_setCell]; exact Nat.le_trans hx.below.size hgrow.size
  · intro k hk
    rw [blk_setCell_other _ _ _ _ (by simp; omega), hlow k (by omega)]
    exact hx.below.block k hk
  · have := (hlow R (Nat.le_refl _)).trans hx.res
    simp [World.setCell, Array.getElem?_modify, this, resC]
  · rw [tb_app, List.length_append, List.length_singleton]
    exact ownsRow_setCell_below hown (by simp) _

set_option maxRecDepth 1000000 in
set_option maxHeartbeats 4000000 in
/-- The holders are laid. -/
theorem loop2 (w w1 wr : World) (gb R : Nat) (G : Int) (a0 : Option Addr) (n0 c0 : Nat) (T M : Nat → Int) (hc : Came2 w a0 n0 T M) (hgb : gb = w.heap.size) (hP : Pool w w1 gb G 8) (hR : R = gb + 10) (hn : n0 ≤ 65536) (bT : ∀ i, 0 ≤ T i ∧ T i ≤ 255) (bM : ∀ i, 0 ≤ M i ∧ M i ≤ 255) (h0 : Hold w1 wr R (gb + 2) (.slice none 0 0) [])
    (Q : Exit → Act → World → Prop) (s0 s1 s2 s3 s4 s5 s6 s7 s8 s10 s12 s13 s14 s15 s16 s17 s18 s19 s20 s21 s22 s23 s24 s25 s26 s27 s28 s29 s30 s31 s32 s33 s34 s35 s36 s37 s38 s39 s40 s41 s42 s43 s44 s45 s46 s47 s48 s49 s50 s51 s52 s53 s54 s55 s56 s57 s58 s59 s60 s61 s65 s66 s67 s68 s69 s70 s71 s72 s73 s74 s75 s76 s77 s78 s79 s80 s81 s82 s83 s84 s85 s86 s87 s88 s89 s90 s91 s92 s93 s94 s95 s96 s97 s98 s99 s100 s101 s102 s103 s104 s105 s106 s107 s108 s109 s110 s111 s112 s113 s114 s115 s116 s117 s118 s119 s120 s121 s122 s123 s124 s125 s126 s127 s128 s129 s130 s131 s132 s133 s134 s135 s136 s137 s138 s139 s140 s141 s142 s143 s144 s145 s146 s147 s148 s149 s150 s151 s152 s153 s154 s155 s156 s157 s158 s159 s160 s161 s162 s163 s164 s165 s166 s167 s168 s169 s170 s171 s172 s173 s174 s175 s176 s177 s178 s179 s180 s181 s182 s183 s184 s185 s186 s187 s188 s189 s190 s191 s192 s193 s194 s195 s196 s197 s198 s199 s200 s201 s202 s203 s204 s205 s206 s207 s208 s209 s210 s211 s212 s213 s214 s215 s216 s217 s218 s219 s220 s221 s222 s223 s224 s225 s226 s227 s228 s229 s230 s231 s232 s233 s234 s235 s236 s237 s238 s239 s240 s241 s242 s243 s244 s245 s246 s247 s248 s249 s250 s251 s252 s253 s254 s255 s256 s257 s258 s259 s260 s261 s262 s263 s264 s265 s266 s267 s268 s269 s270 s271 s272 s273 s274 s275 s276 s277 s278 s279 s280 s281 s282 s283 s284 s285 s286 s287 s288 s289 s290 s291 s292 s293 s294 s295 s296 s297 s298 s299 s300 s301 s302 s303 s304 s305 s306 s307 s308 s309 s310 s311 s312 s313 s314 s315 s316 s317 s318 s319 s320 s321 s322 s323 s324 s325 s326 s327 s328 s329 s330 s331 s332 s333 s334 s335 s336 s337 s338 s339 s340 s341 s342 s343 s344 s345 s346 s347 s348 s349 s350 s351 s352 s353 s354 s355 s356 s357 s358 s359 s360 s361 s362 s363 s364 s365 s366 s367 s368 s369 s370 s371 s372 s373 s374 s375 s376 s377 s378 s379 s380 s381 s382 s383 s384 s385 s386 s387 s388 s389 s390 s391 s392 s393 s394 s395 s396 s397 s398 s399 s400 s401 s402 s403 s404 s405 s406 s407 : Value)
    (hQ : ∀ (v13 v64 v65 v66 v67 v68 v69 v70 v71 v72 v73 v74 v75 v76 v77 v78 v79 v80 v81 v82 v83 v84 v85 v86 : Value) (w1' : World), (∃ v, Hold w1 w1' R (gb + 2) v (hsTo T M n0)) → Q .normal ⟨#[s0, s1, s2, s3, s4, s5, s6, s7, s8, .pointer (some ⟨gb + 1, 0, none⟩), s10, .pointer (some ⟨R, 0, none⟩), s12, v13, s14, s15, s16, s17, s18, s19, s20, s21, s22, s23, s24, s25, s26, s27, s28, s29, s30, s31, s32, s33, s34, s35, s36, s37, s38, s39, s40, s41, s42, s43, s44, s45, s46, s47, s48, s49, s50, s51, s52, s53, s54, s55, s56, s57, s58, s59, s60, s61, .slice a0 n0 c0, .int .i64 (n0 : Int), v64, v65, v66, v67, v68, v69, v70, v71, v72, v73, v74, v75, v76, v77, v78, v79, v80, v81, v82, v83, v84, v85, v86, s87, s88, s89, s90, s91, s92, s93, s94, s95, s96, s97, s98, s99, s100, s101, s102, s103, s104, s105, s106, s107, s108, s109, s110, s111, s112, s113, s114, s115, s116, s117, s118, s119, s120, s121, s122, s123, s124, s125, s126, s127, s128, s129, s130, s131, s132, s133, s134, s135, s136, s137, s138, s139, s140, s141, s142, s143, s144, s145, s146, s147, s148, s149, s150, s151, s152, s153, s154, s155, s156, s157, s158, s159, s160, s161, s162, s163, s164, s165, s166, s167, s168, s169, s170, s171, s172, s173, s174, s175, s176, s177, s178, s179, s180, s181, s182, s183, s184, s185, s186, s187, s188, s189, s190, s191, s192, s193, s194, s195, s196, s197, s198, s199, s200, s201, s202, s203, s204, s205, s206, s207, s208, s209, s210, s211, s212, s213, s214, s215, s216, s217, s218, s219, s220, s221, s222, s223, s224, s225, s226, s227, s228, s229, s230, s231, s232, s233, s234, s235, s236, s237, s238, s239, s240, s241, s242, s243, s244, s245, s246, s247, s248, s249, s250, s251, s252, s253, s254, s255, s256, s257, s258, s259, s260, s261, s262, s263, s264, s265, s266, s267, s268, s269, s270, s271, s272, s273, s274, s275, s276, s277, s278, s279, s280, s281, s282, s283, s284, s285, s286, s287, s288, s289, s290, s291, s292, s293, s294, s295, s296, s297, s298, s299, s300, s301, s302, s303, s304, s305, s306, s307, s308, s309, s310, s311, s312, s313, s314, s315, s316, s317, s318, s319, s320, s321, s322, s323, s324, s325, s326, s327, s328, s329, s330, s331, s332, s333, s334, s335, s336, s337, s338, s339, s340, s341, s342, s343, s344, s345, s346, s347, s348, s349, s350, s351, s352, s353, s354, s355, s356, s357, s358, s359, s360, s361, s362, s363, s364, s365, s366, s367, s368, s369, s370, s371, s372, s373, s374, s375, s376, s377, s378, s379, s380, s381, s382, s383, s384, s385, s386, s387, s388, s389, s390, s391, s392, s393, s394, s395, s396, s397, s398, s399, s400, s401, s402, s403, s404, s405, s406, s407], []⟩ w1') :
    Code.wp Yba.prog ((Yba.f4.body.bind (findLoop 13)).getD .skip) (Exit.inBlock 2 Q) ⟨#[s0, s1, s2, s3, s4, s5, s6, s7, s8, .pointer (some ⟨gb + 1, 0, none⟩), s10, .pointer (some ⟨R, 0, none⟩), s12, s13, s14, s15, s16, s17, s18, s19, s20, s21, s22, s23, s24, s25, s26, s27, s28, s29, s30, s31, s32, s33, s34, s35, s36, s37, s38, s39, s40, s41, s42, s43, s44, s45, s46, s47, s48, s49, s50, s51, s52, s53, s54, s55, s56, s57, s58, s59, s60, s61, .slice a0 n0 c0, .int .i64 (n0 : Int), .int .i64 0, s65, s66, s67, s68, s69, s70, s71, s72, s73, s74, s75, s76, s77, s78, s79, s80, s81, s82, s83, s84, s85, s86, s87, s88, s89, s90, s91, s92, s93, s94, s95, s96, s97, s98, s99, s100, s101, s102, s103, s104, s105, s106, s107, s108, s109, s110, s111, s112, s113, s114, s115, s116, s117, s118, s119, s120, s121, s122, s123, s124, s125, s126, s127, s128, s129, s130, s131, s132, s133, s134, s135, s136, s137, s138, s139, s140, s141, s142, s143, s144, s145, s146, s147, s148, s149, s150, s151, s152, s153, s154, s155, s156, s157, s158, s159, s160, s161, s162, s163, s164, s165, s166, s167, s168, s169, s170, s171, s172, s173, s174, s175, s176, s177, s178, s179, s180, s181, s182, s183, s184, s185, s186, s187, s188, s189, s190, s191, s192, s193, s194, s195, s196, s197, s198, s199, s200, s201, s202, s203, s204, s205, s206, s207, s208, s209, s210, s211, s212, s213, s214, s215, s216, s217, s218, s219, s220, s221, s222, s223, s224, s225, s226, s227, s228, s229, s230, s231, s232, s233, s234, s235, s236, s237, s238, s239, s240, s241, s242, s243, s244, s245, s246, s247, s248, s249, s250, s251, s252, s253, s254, s255, s256, s257, s258, s259, s260, s261, s262, s263, s264, s265, s266, s267, s268, s269, s270, s271, s272, s273, s274, s275, s276, s277, s278, s279, s280, s281, s282, s283, s284, s285, s286, s287, s288, s289, s290, s291, s292, s293, s294, s295, s296, s297, s298, s299, s300, s301, s302, s303, s304, s305, s306, s307, s308, s309, s310, s311, s312, s313, s314, s315, s316, s317, s318, s319, s320, s321, s322, s323, s324, s325, s326, s327, s328, s329, s330, s331, s332, s333, s334, s335, s336, s337, s338, s339, s340, s341, s342, s343, s344, s345, s346, s347, s348, s349, s350, s351, s352, s353, s354, s355, s356, s357, s358, s359, s360, s361, s362, s363, s364, s365, s366, s367, s368, s369, s370, s371, s372, s373, s374, s375, s376, s377, s378, s379, s380, s381, s382, s383, s384, s385, s386, s387, s388, s389, s390, s391, s392, s393, s394, s395, s396, s397, s398, s399, s400, s401, s402, s403, s404, s405, s406, s407], []⟩ wr := by
  have HGB := hid hgb
  have HR := hid hR
  have hle1 : gb + 10 ≤ R := by omega
  clear hgb hR
  conv => arg 2; whnf
  conv => arg 4; dsimp only
  go_loopw [64] (fun i wr => ∃ k : Nat, k ≤ n0 ∧ i = .int .i64 k ∧ ∃ v, Hold w1 wr R (gb + 2) v (hsTo T M k)) (fun i _ => n0 - (intOf i).toNat)
  case atStart => exact ⟨0, Nat.zero_le _, rfl, _, h0⟩
  case round =>
    clear h0
    obtain ⟨k, hk, rfl, v, hH⟩ := hrel
    by_cases hlt : k < n0
    · obtain ⟨b, off, rfl, hcs⟩ := hc k hlt
      have hck := hcs k hlt
      have hP := hP
      have lb := lt_of_cell hck.1
      have hbw : Below w.heap.size w wr := by
        rw [← HGB.out]
        exact hP.below.trans (hH.below.mono (by omega))
      have d0 := cell_keep hbw lb hck.1
      have d1 := cell_keep hbw lb hck.2
      obtain ⟨tt, ett⟩ : ∃ tt, tt = T k := ⟨_, rfl⟩
      obtain ⟨mm, emm⟩ : ∃ mm, mm = M k := ⟨_, rfl⟩
      have bt := bT k
      have bm := bM k
      obtain ⟨i, hi⟩ : ∃ i : Nat, (T k % 8) = (i : Int) := ⟨(T k % 8).toNat, by omega⟩
      have hi8 : i < 8 := by omega
      have hsucc := hsTo_succ T M k
      rw [hi, Int.toNat_natCast] at hsucc
      rw [← ett] at d0 bt hi
      rw [← emm] at d1 bm hsucc
      have HSU := hid hsucc
      have hlen := hsTo_length T M k
      clear ett emm hsucc hck hcs
      have hbA : Below wr.heap.size wr (wr.alloc (.cells #[.int .u8 tt, .int .u8 mm] 54)) := (Below.refl _ _).alloc (Nat.le_refl _) _
      have hHA := hid (hH.keep hbA)
      have hRl := hH.lt
      have hpc : wr.cell? ⟨gb + 1, i, none⟩ = some (.pointer (some ⟨gb + 2 + i, 0, none⟩)) := by
        have hc1 := hP.pool.cell hi8
        simp only [if_pos hi8] at hc1
        exact cell_keep hH.below (by omega) hc1
      have hpcA := cell_keep hbA (lt_of_cell hpc) hpc
      have b0 := blk_alloc_new wr (.cells #[.int .u8 tt, .int .u8 mm] 54)
      have e0 : (wr.alloc (.cells #[.int .u8 tt, .int .u8 mm] 54)).cell? ⟨wr.heap.size, 0, none⟩ = some (.int .u8 tt) := by simp
      have e1 : (wr.alloc (.cells #[.int .u8 tt, .int .u8 mm] 54)).cell? ⟨wr.heap.size, 1, none⟩ = some (.int .u8 mm) := by simp
      have hbn := own_ne hHA.out.own b0 (by decide)
      have hpn : v.ownBlock ≠ some (gb + 1) := fun e => by have := hH.own.lt _ e; omega
      have HH := hid hH
      have HB := hid hbA
      have i0 : (0 : Int) ≤ (k : Int) := by omega
      have i1 : (k : Int) < (n0 : Int) := by omega
      have lbw : b < wr.heap.size := lt_of_cell d0
      clear hH hbA hbw b0 hpc
      go_wp2_with fail
      refine holdRegion (wr.alloc (.cells #[.int .u8 tt, .int .u8 mm] 54)) R (gb + 1) wr.heap.size (gb + 2 + i) i tt mm v (hsTo T M k).length (flat (tb (gb + 2) (hsTo T M k))) hHA.out.own (by omega) bt bm hi hi8 hpn hbn (by omega) (by omega) hHA.out.cell hHA.out.frozen hpcA e0 e1 _ _ _ _ _ _ _ _ _ _ _ _ _ _ _ _ _ _ _ _ _ _ _ _ _ _ _ _ _ _ _ _ _ _ _ _ _ _ _ _ _ _ _ _ _ _ _ _ _ _ _ _ _ _ _ _ _ _ _ _ _ _ _ _ _ _ _ _ _ _ _ _ _ _ _ _ _ _ _ _ _ _ _ _ _ _ _ _ _ _ _ _ _ _ _ _ _ _ _ _ _ _ _ _ _ _ _ _ _ _ _ _ _ _ _ _ _ _ _ _ _ _ _ _ _ _ _ _ _ _ _ _ _ _ _ _ _ _ _ _ _ _ _ _ _ _ _ _ _ _ _ _ _ _ _ _ _ _ _ _ _ _ _ _ _ _ _ _ _ _ _ _ _ _ _ _ _ _ _ _ _ _ _ _ _ _ _ _ _ _ _ _ _ _ _ _ _ _ _ _ _ _ _ _ _ _ _ _ _ _ _ _ _ _ _ _ _ _ _ _ _ _ _ _ _ _ _ _ _ _ _ _ _ _ _ _ _ _ _ _ _ _ _ _ _ _ _ _ _ _ _ _ _ _ _ _ _ _ _ _ _ _ _ _ _ _ _ _ _ _ _ _ _ _ _ _ _ _ _ _ _ _ _ _ _ _ _ _ _ _ _ _ _ _ _ _ _ _ _ _ _ _ _ _ _ _ _ _ _ _ _ _ _ _ _ _ _ _ _ _ _ _ _ _ _ _ _ _ _ _ _ _ _ _ _ _ _ _ _ _ _ _ _ _ _ _ _ _ _ _ _ _ _ _ _ _ _ _ _ _ _ _ _ _ _ _ _ _ _ _ _ _ _ _ _ _ _ _ _ _ _ _ _ _ _ _ _ _ _ _ _ _ _ _ _ _ _ _ _ _ _ _ _ _ _ _ ?_
      intro y68 y69 y70 y71 y72 y73 y74 y75 y76 y77 y78 y79 y80 y81 y82 y83 y84 y85 wz g cap hown1 hgrow
      have HX := hid (hHA.out.add (((Below.refl _ _).alloc (Nat.le_refl _) _).drew) (i, mm % 3) hown1 hgrow)
      rw [← HSU.out] at HX
      clear hlen hown1 hgrow hHA HH HB HSU hpcA e0 e1 hpn hbn d0 d1 bt bm hi
      go_wp2
      go_roundw
      case rel => exact ⟨k + 1, by omega, by go_num, _, HX.out⟩
      case measure => simp [intOf]; omega
    · have hk0 : n0 = k := by omega
      subst hk0
      go_wp2
      exact ⟨v, hH⟩

end Go.Proofs.Ybulkecuo.B
