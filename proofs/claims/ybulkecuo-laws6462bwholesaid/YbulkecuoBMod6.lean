import Derived.Test.YbulkecuoBMod
import Derived.Deep.Cut
namespace Go.Proofs.Ybulkecuo.B
set_option linter.unusedVariables false
set_option linter.unusedSimpArgs false
open Go.RowKit Go.Deep

theorem info3 : (Yba.prog.info? 3).map (fun i => (i.zero, i.size, i.bytes)) = some (some (.int .i64 0), 1, 8) := by kernel_rfl

structure L6 (wm wr : World) (SB : Nat) (o : Value) (h : List (Nat × Int)) (outs : List Nat) : Prop where
  mod : Mod wm wr SB h
  own : wr.ownsRow (SB + 2) 3 1 o outs.length (outs.map fun t : Nat => Value.int .i64 (t : Int))

theorem L6.keep {wm wr wx : World} {SB : Nat} {o : Value} {h : List (Nat × Int)} {outs : List Nat} (hL : L6 wm wr SB o h outs) (hb : Below wr.heap.size wr wx) : L6 wm wx SB o h outs :=
  ⟨hL.mod.keep hb, own_keep hb hL.own⟩

theorem hS_struck (x : Nat) (h : List (Nat × Int)) (i : Nat) : hS (struck x h) i = (!decide (i = x) && hS h i) := by
  unfold hS struck
  rw [List.any_filter, Bool.eq_iff_iff]
  simp only [List.any_eq_true, Bool.and_eq_true, Bool.not_eq_true', decide_eq_false_iff_not, decide_eq_true_eq]
  constructor
  · rintro ⟨e, he, h1, h2, h3⟩
    exact ⟨fun hh => h1 (h2.trans hh), e, he, h2, h3⟩
  · rintro ⟨h1, e, he, h2, h3⟩
    exact ⟨e, he, fun hh => h1 (h2.symm.trans hh), h2, h3⟩
theorem hX_struck (x : Nat) (h : List (Nat × Int)) (i : Nat) : hX (struck x h) i = (!decide (i = x) && hX h i) := by
  unfold hX struck
  rw [List.any_filter, Bool.eq_iff_iff]
  simp only [List.any_eq_true, Bool.and_eq_true, Bool.not_eq_true', decide_eq_false_iff_not, decide_eq_true_eq]
  constructor
  · rintro ⟨e, he, h1, h2, h3⟩
    exact ⟨fun hh => h1 (h2.trans hh), e, he, h2, h3⟩
  · rintro ⟨h1, e, he, h2, h3⟩
    exact ⟨e, he, fun hh => h1 (h2.symm.trans hh), h2, h3⟩

theorem L6.strike {wm wr : World} {SB : Nat} {o : Value} {h : List (Nat × Int)} {outs : List Nat} (hL : L6 wm wr SB o h outs) (i : Nat) :
    L6 wm ((wr.setCell ⟨SB, i, none⟩ (.bool false)).setCell ⟨SB + 1, i, none⟩ (.bool false)) SB o (struck i h) outs := by
  refine ⟨⟨(hL.mod.below.setCell (Nat.le_refl _) _).setCell (by show SB ≤ SB + 1; omega) _, by rw [nblk_setCell, nblk_setCell]; exact hL.mod.size, ?_, ?_⟩, ?_⟩
  · refine ((hL.mod.a.set i (.bool false)).setOther (a := ⟨SB + 1, i, none⟩) (by simp) _).congr fun j _ => ?_
    rw [hS_struck]
    by_cases e : j = i <;> simp [e]
  · refine ((hL.mod.b.setOther (a := ⟨SB, i, none⟩) (by simp) _).set i (.bool false)).congr fun j _ => ?_
    rw [hX_struck]
    by_cases e : j = i <;> simp [e]
  · exact ownsRow_setCell_below (ownsRow_setCell_below hL.own (by show SB < _; omega) _) (by show SB + 1 < _; omega) _

theorem L6.add {wm wr : World} {SB : Nat} {o : Value} {h : List (Nat × Int)} {outs : List Nat} (hL : L6 wm wr SB o h outs) (i : Nat) (m : Int) :
    L6 wm (wr.setCell ⟨if (m == 1) = true then SB else SB + 1, i, none⟩ (.bool true)) SB o (h ++ [(i, m)]) outs :=
  ⟨mod_add hL.mod i m, ownsRow_setCell_below hL.own (by show (if (m == 1) = true then SB else SB + 1) < _; split <;> omega) _⟩

theorem L6.push {wm wr w1 : World} {SB g cap : Nat} {o : Value} {h : List (Nat × Int)} {outs : List Nat} (hL : L6 wm wr SB o h outs) {wx : World} (hb : Below wr.heap.size wr wx) (t : Nat)
    (hown : w1.ownsRow (SB + 2) 3 1 (.slice (some ⟨g, 0, none⟩) (outs.length + 1) cap) (outs.length + 1) ((outs.map fun t : Nat => Value.int .i64 (t : Int)) ++ [.int .i64 (t : Int)])) (hgrow : wx.grownBy w1 o.ownBlock) :
    L6 wm w1 SB (.slice (some ⟨g, 0, none⟩) (outs.length + 1) cap) h (outs ++ [t]) := by
  have hx := hL.keep hb
  have hs := hx.mod.size
  have hlow : ∀ k, k < SB + 2 → w1.heap[k]? = wx.heap[k]? := fun k hk => hgrow.block k (by omega) (fun e => by have := hx.own.lt k e.symm; omega)
  have hB : Below (SB + 2) wx w1 := ⟨hgrow.os, hgrow.tape, hgrow.output, hgrow.size, hlow⟩
  refine ⟨⟨hx.mod.below.trans (hB.mono (by omega)), Nat.le_trans hs hgrow.size, row_below hB (by omega) hx.mod.a, row_below hB (by omega) hx.mod.b⟩, by simpa using hown⟩

def rqOf (T M : Nat → Int) (j : Nat) : Req := ⟨(T j % 8).toNat, M j % 3⟩

/-- How the model's queue ends. -/
def End6 (wm w1 : World) (SB : Nat) (r : Option (List (Nat × Int) × List Nat)) (o e : Value) : Prop :=
  Below SB wm w1 ∧ match r with
  | none => e = .bool true
  | some (_, outs) => e = .bool false ∧ w1.ownsRow (SB + 2) 3 1 o outs.length (outs.map fun t : Nat => Value.int .i64 (t : Int))

set_option maxRecDepth 1000000 in
set_option maxHeartbeats 4000000 in
/-- The model's queue. -/
theorem loop6 (wm wr : World) (gb SB qpos xi : Nat) (G qm : Int) (a1 : Option Addr) (n c1 : Nat) (T M : Nat → Int) (h0 : List (Nat × Int)) (hc : Came2 wm a1 n T M) (hG : wm.cell? ⟨gb, 0, none⟩ = some (.int .u8 G)) (hSB : SB ≤ wm.heap.size ∧ wm.heap.size ≤ SB) (hn : n ≤ 65536) (bT : ∀ i, 0 ≤ T i ∧ T i ≤ 255) (bM : ∀ i, 0 ≤ M i ∧ M i ≤ 255) (hh0 : ∀ e ∈ h0, e.1 < 8) (hrt : ∀ j, (rqOf T M j).t < 8) (hM0 : Mod wm wr SB h0)
    (Q : Exit → Act → World → Prop) (s0 s1 s2 s3 s4 s5 s6 s8 s9 s10 s11 s12 s13 s14 s15 s16 s17 s19 s20 s21 s22 s23 s24 s27 s28 s29 s34 s35 s36 s37 s38 s39 s40 s41 s42 s43 s44 s45 s46 s47 s48 s49 s50 s51 s52 s53 s54 s55 s56 s57 s58 s59 s60 s61 s62 s63 s64 s65 s66 s67 s68 s69 s70 s71 s72 s73 s74 s75 s76 s77 s78 s79 s80 s81 s82 s83 s84 s85 s86 s87 s88 s89 s90 s91 s92 s93 s94 s95 s96 s97 s98 s99 s100 s101 s102 s103 s104 s105 s106 s107 s108 s109 s110 s111 s112 s113 s114 s115 s116 s117 s118 s119 s120 s121 s122 s123 s124 s125 s126 s127 s128 s129 s130 s131 s132 s133 s134 s135 s136 s137 s138 s139 s140 s141 s142 s143 s144 s145 s146 s147 s148 s149 s150 s151 s152 s153 s154 s155 s156 s157 s158 s159 s160 s161 s162 s163 s164 s165 s166 s167 s168 s169 s170 s171 s172 s173 s174 s175 s176 s177 s178 s179 s180 s181 s182 s183 s184 s185 s186 s187 s188 s189 s190 s191 s192 s193 s194 s195 s196 s197 s198 s199 s200 s201 s202 s203 s204 s205 s206 s207 s208 s209 s210 s211 s215 s216 s217 s218 s219 s220 s221 s222 s223 s224 s225 s226 s227 s228 s229 s230 s231 s232 s233 s234 s235 s236 s237 s238 s239 s240 s241 s242 s243 s244 s245 s246 s247 s248 s249 s250 s251 s252 s253 s254 s255 s256 s257 s258 s259 s260 s261 s262 s263 s264 s265 s266 s267 s268 s269 s270 s271 s272 s273 s274 s275 s276 s277 s278 s279 s280 s281 s282 s283 s284 s285 s286 s287 s288 s289 s290 s291 s292 s293 s294 s295 s296 s297 s298 s299 s300 s301 s302 s303 s304 s305 s306 s307 s308 s309 s310 s311 s312 s313 s314 s315 s316 s317 s318 s319 s320 s321 s322 s323 s324 s325 s326 s327 s328 s329 s330 s331 s332 s333 s334 s335 s336 s337 s338 s339 s340 s341 s342 s343 s344 s345 s346 s347 s348 s349 s350 s351 s352 s353 s354 s355 s356 s357 s358 s359 s360 s361 s362 s363 s364 s365 s366 s367 s368 s369 s370 s371 s372 s373 s374 s375 s376 s377 s378 s379 s380 s381 s382 s383 s384 s385 s386 s387 s388 s389 s390 s391 s392 s393 s394 s395 s396 s397 s398 s399 s400 s401 s402 s403 s404 s405 s406 s407 : Value)
    (hQ : ∀ (v32 v33 v34 v35 v36 v37 v214 v215 v216 v217 v218 v219 v220 v221 v222 v223 v224 v225 v226 v227 v228 v229 v230 v231 v232 v233 v234 v235 v236 v237 v238 v239 v240 v241 v242 v243 v244 v245 v246 v247 v248 v249 v250 v251 v252 v253 v254 v255 v256 v257 v258 v259 v260 v261 v262 v263 v264 v265 v266 v267 v268 v269 v270 : Value) (w1 : World), End6 wm w1 SB (run G xi qpos qm (rqOf T M) h0 n) v32 v33 → Q .normal ⟨#[s0, s1, s2, s3, s4, s5, s6, .pointer (some ⟨gb, 0, none⟩), s8, s9, s10, s11, s12, s13, s14, s15, s16, s17, .int .i64 (qpos : Int), s19, s20, s21, s22, s23, s24, .pointer (some ⟨SB, 0, none⟩), .pointer (some ⟨SB + 1, 0, none⟩), s27, s28, s29, .int .i64 (xi : Int), .int .u8 qm, v32, v33, v34, v35, v36, v37, s38, s39, s40, s41, s42, s43, s44, s45, s46, s47, s48, s49, s50, s51, s52, s53, s54, s55, s56, s57, s58, s59, s60, s61, s62, s63, s64, s65, s66, s67, s68, s69, s70, s71, s72, s73, s74, s75, s76, s77, s78, s79, s80, s81, s82, s83, s84, s85, s86, s87, s88, s89, s90, s91, s92, s93, s94, s95, s96, s97, s98, s99, s100, s101, s102, s103, s104, s105, s106, s107, s108, s109, s110, s111, s112, s113, s114, s115, s116, s117, s118, s119, s120, s121, s122, s123, s124, s125, s126, s127, s128, s129, s130, s131, s132, s133, s134, s135, s136, s137, s138, s139, s140, s141, s142, s143, s144, s145, s146, s147, s148, s149, s150, s151, s152, s153, s154, s155, s156, s157, s158, s159, s160, s161, s162, s163, s164, s165, s166, s167, s168, s169, s170, s171, s172, s173, s174, s175, s176, s177, s178, s179, s180, s181, s182, s183, s184, s185, s186, s187, s188, s189, s190, s191, s192, s193, s194, s195, s196, s197, s198, s199, s200, s201, s202, s203, s204, s205, s206, s207, s208, s209, s210, s211, .slice a1 n c1, .int .i64 (n : Int), v214, v215, v216, v217, v218, v219, v220, v221, v222, v223, v224, v225, v226, v227, v228, v229, v230, v231, v232, v233, v234, v235, v236, v237, v238, v239, v240, v241, v242, v243, v244, v245, v246, v247, v248, v249, v250, v251, v252, v253, v254, v255, v256, v257, v258, v259, v260, v261, v262, v263, v264, v265, v266, v267, v268, v269, v270, s271, s272, s273, s274, s275, s276, s277, s278, s279, s280, s281, s282, s283, s284, s285, s286, s287, s288, s289, s290, s291, s292, s293, s294, s295, s296, s297, s298, s299, s300, s301, s302, s303, s304, s305, s306, s307, s308, s309, s310, s311, s312, s313, s314, s315, s316, s317, s318, s319, s320, s321, s322, s323, s324, s325, s326, s327, s328, s329, s330, s331, s332, s333, s334, s335, s336, s337, s338, s339, s340, s341, s342, s343, s344, s345, s346, s347, s348, s349, s350, s351, s352, s353, s354, s355, s356, s357, s358, s359, s360, s361, s362, s363, s364, s365, s366, s367, s368, s369, s370, s371, s372, s373, s374, s375, s376, s377, s378, s379, s380, s381, s382, s383, s384, s385, s386, s387, s388, s389, s390, s391, s392, s393, s394, s395, s396, s397, s398, s399, s400, s401, s402, s403, s404, s405, s406, s407], []⟩ w1) :
    Code.wp Yba.prog ((Yba.f4.body.bind (findLoop 52)).getD .skip) (Exit.inBlock 10 Q) ⟨#[s0, s1, s2, s3, s4, s5, s6, .pointer (some ⟨gb, 0, none⟩), s8, s9, s10, s11, s12, s13, s14, s15, s16, s17, .int .i64 (qpos : Int), s19, s20, s21, s22, s23, s24, .pointer (some ⟨SB, 0, none⟩), .pointer (some ⟨SB + 1, 0, none⟩), s27, s28, s29, .int .i64 (xi : Int), .int .u8 qm, .slice none 0 0, .bool false, s34, s35, s36, s37, s38, s39, s40, s41, s42, s43, s44, s45, s46, s47, s48, s49, s50, s51, s52, s53, s54, s55, s56, s57, s58, s59, s60, s61, s62, s63, s64, s65, s66, s67, s68, s69, s70, s71, s72, s73, s74, s75, s76, s77, s78, s79, s80, s81, s82, s83, s84, s85, s86, s87, s88, s89, s90, s91, s92, s93, s94, s95, s96, s97, s98, s99, s100, s101, s102, s103, s104, s105, s106, s107, s108, s109, s110, s111, s112, s113, s114, s115, s116, s117, s118, s119, s120, s121, s122, s123, s124, s125, s126, s127, s128, s129, s130, s131, s132, s133, s134, s135, s136, s137, s138, s139, s140, s141, s142, s143, s144, s145, s146, s147, s148, s149, s150, s151, s152, s153, s154, s155, s156, s157, s158, s159, s160, s161, s162, s163, s164, s165, s166, s167, s168, s169, s170, s171, s172, s173, s174, s175, s176, s177, s178, s179, s180, s181, s182, s183, s184, s185, s186, s187, s188, s189, s190, s191, s192, s193, s194, s195, s196, s197, s198, s199, s200, s201, s202, s203, s204, s205, s206, s207, s208, s209, s210, s211, .slice a1 n c1, .int .i64 (n : Int), .int .i64 0, s215, s216, s217, s218, s219, s220, s221, s222, s223, s224, s225, s226, s227, s228, s229, s230, s231, s232, s233, s234, s235, s236, s237, s238, s239, s240, s241, s242, s243, s244, s245, s246, s247, s248, s249, s250, s251, s252, s253, s254, s255, s256, s257, s258, s259, s260, s261, s262, s263, s264, s265, s266, s267, s268, s269, s270, s271, s272, s273, s274, s275, s276, s277, s278, s279, s280, s281, s282, s283, s284, s285, s286, s287, s288, s289, s290, s291, s292, s293, s294, s295, s296, s297, s298, s299, s300, s301, s302, s303, s304, s305, s306, s307, s308, s309, s310, s311, s312, s313, s314, s315, s316, s317, s318, s319, s320, s321, s322, s323, s324, s325, s326, s327, s328, s329, s330, s331, s332, s333, s334, s335, s336, s337, s338, s339, s340, s341, s342, s343, s344, s345, s346, s347, s348, s349, s350, s351, s352, s353, s354, s355, s356, s357, s358, s359, s360, s361, s362, s363, s364, s365, s366, s367, s368, s369, s370, s371, s372, s373, s374, s375, s376, s377, s378, s379, s380, s381, s382, s383, s384, s385, s386, s387, s388, s389, s390, s391, s392, s393, s394, s395, s396, s397, s398, s399, s400, s401, s402, s403, s404, s405, s406, s407], []⟩ wr := by
  conv => arg 2; whnf
  conv => arg 4; dsimp only
  go_loopw [32, 33, 214] (fun o e i wr => ∃ (k : Nat) (h : List (Nat × Int)) (outs : List Nat), k ≤ n ∧ i = .int .i64 k ∧ e = .bool false ∧ run G xi qpos qm (rqOf T M) h0 k = some (h, outs) ∧ L6 wm wr SB o h outs) (fun _ _ i _ => n - (intOf i).toNat)
  case atStart => exact ⟨0, h0, [], Nat.zero_le _, rfl, rfl, rfl, ⟨hM0, ⟨rfl, .inl ⟨rfl, rfl⟩⟩⟩⟩
  case round =>
    clear hM0
    obtain ⟨k, h, outs, hk, rfl, rfl, hrun, hL⟩ := hrel
    have hlts := run_lt hh0 (fun j => hrt j) k h outs hrun
    have HR := hid hrun
    have HLT := hid hlts
    clear hrun hlts
    by_cases hlt : k < n
    · obtain ⟨b, off, rfl, hcs⟩ := hc k hlt
      have hck := hcs k hlt
      have lb := lt_of_cell hck.1
      have hM := hL.mod
      have hbw : Below wm.heap.size wm wr := hM.below.mono hSB.2
      have d0 := cell_keep hbw lb hck.1
      have d1 := cell_keep hbw lb hck.2
      have g0 := cell_keep hbw (lt_of_cell hG) hG
      obtain ⟨tt, ett⟩ : ∃ tt, tt = T k := ⟨_, rfl⟩
      obtain ⟨mm, emm⟩ : ∃ mm, mm = M k := ⟨_, rfl⟩
      have bt := bT k
      have bm := bM k
      obtain ⟨i, hi⟩ : ∃ i : Nat, (T k % 8) = (i : Int) := ⟨(T k % 8).toNat, by omega⟩
      have hi8 : i < 8 := by omega
      have hrq : rqOf T M k = ⟨i, mm % 3⟩ := by simp [rqOf, hi, emm]
      have hstep : run G xi qpos qm (rqOf T M) h0 (k + 1) = if k = qpos then (if fitsL h xi qm = true then none else some (h, outs)) else if (goneB G i || !fitsL h i (mm % 3)) = true then some (h, outs) else some (struck i h ++ [(i, mm % 3)], if blk i (mm % 3) xi qm = true then outs ++ [i] else outs) := by
        rw [run, HR.out]
        simp only [hrq]
      rw [← ett] at d0 bt hi
      rw [← emm] at d1 bm
      obtain ⟨ht0, ht1⟩ := bt
      obtain ⟨hm0, hm1⟩ := bm
      have hti2 : tt.tmod 8 = (i : Int) := by rw [Int.tmod_eq_emod_of_nonneg ht0]; exact hi
      have HST := hid hstep
      clear ett emm hck hcs hrq hstep
      have hbA : Below wr.heap.size wr (wr.alloc (.cells #[.int .u8 tt, .int .u8 mm] 54)) := (Below.refl _ _).alloc (Nat.le_refl _) _
      have HLA := hid (hL.keep hbA)
      have hsz := hM.size
      have i0 : (0 : Int) ≤ (k : Int) := by omega
      have i1 : (k : Int) < (n : Int) := by omega
      have j0 : (0 : Int) ≤ (i : Int) := by omega
      have j1 : (i : Int) < 8 := by omega
      have lbw : b < wr.heap.size := lt_of_cell d0
      have lgw : gb < wr.heap.size := lt_of_cell g0
      have hm8 := fun W => mode_any mm hm0 hm1 W
      obtain ⟨m3, em3⟩ : ∃ m3, m3 = mm % 3 := ⟨_, rfl⟩
      rw [← em3] at HST hm8
      clear hM hL hbA hbw em3
      obtain ⟨W1, hW1⟩ : ∃ W1, W1 = wr.alloc (.cells #[.int .u8 tt, .int .u8 mm] 54) := ⟨_, rfl⟩
      rw [← hW1] at HLA
      have e0 : W1.cell? ⟨wr.heap.size, 0, none⟩ = some (.int .u8 tt) := by rw [hW1]; simp
      have e1 : W1.cell? ⟨wr.heap.size, 1, none⟩ = some (.int .u8 mm) := by rw [hW1]; simp
      have g1 : W1.cell? ⟨gb, 0, none⟩ = some (.int .u8 G) := by rw [hW1]; exact cell_keep ((Below.refl _ _).alloc (Nat.le_refl _) _) lgw g0
      have ca := HLA.out.mod.a.cell hi8
      have cb := HLA.out.mod.b.cell hi8
      have fa := HLA.out.mod.a.frozen i
      have fb := HLA.out.mod.b.frozen i
      have hfx := model_fits SB (SB + 1) xi qm (hS h) (hX h) 82 82 W1 HLA.out.mod.a HLA.out.mod.b
      have hfi := model_fits SB (SB + 1) i m3 (hS h) (hX h) 82 82 W1 HLA.out.mod.a HLA.out.mod.b
      rw [mf_fits h HLT.out.1] at hfx hfi
      have HW := hid hW1
      clear hW1
      obtain ⟨fx, efx⟩ : ∃ fx, fx = fitsL h xi qm := ⟨_, rfl⟩
      obtain ⟨fi, efi⟩ : ∃ fi, fi = fitsL h i m3 := ⟨_, rfl⟩
      rw [← efx] at hfx HST
      rw [← efi] at hfi HST
      clear efx efi
      by_cases hkq : k = qpos
      · have hkd : ((k : Int) == (qpos : Int)) = true := by simp [hkq]
        have HKQ := hid hkq
        clear hkq hfi ca cb fa fb
        cases fx with
        | true =>
          have HN : Hid (run G xi qpos qm (rqOf T M) h0 n = none) := hid (run_none (j := k + 1) (by rw [HST.out, if_pos HKQ.out, if_pos rfl]) n (by omega))
          go_wp2_with (first | (go_at_call 8; refine (hm8 _).mono ?_; rintro e w' ⟨rfl, rfl⟩; rw [← HW.out]) | (go_at_call 12; refine hfx.mono ?_; rintro e w' ⟨rfl, rfl⟩))
          exact ⟨HLA.out.mod.below, by rw [HN.out]⟩
        | false =>
          have HN : Hid (run G xi qpos qm (rqOf T M) h0 (k + 1) = some (h, outs)) := hid (by rw [HST.out, if_pos HKQ.out, if_neg (by decide)])
          go_wp2_with (first | (go_at_call 8; refine (hm8 _).mono ?_; rintro e w' ⟨rfl, rfl⟩; rw [← HW.out]) | (go_at_call 12; refine hfx.mono ?_; rintro e w' ⟨rfl, rfl⟩))
          go_roundw
          case rel => exact ⟨k + 1, h, outs, by omega, by go_num, rfl, HN.out, HLA.out⟩
          case measure => simp [intOf]; omega
      · have hkd : ((k : Int) == (qpos : Int)) = false := by simp; omega
        have HKQ := hid hkq
        clear hkq hfx
        cases hg : goneB G i with
        | true =>
          have hg' : (bits .and .u8 (G / 2 ^ i) 1 == 1) = true := hg
          have HN : Hid (run G xi qpos qm (rqOf T M) h0 (k + 1) = some (h, outs)) := hid (by rw [HST.out, if_neg HKQ.out, hg]; rfl)
          clear hg ca cb fa fb hfi
          go_wp2_with (first | (go_at_call 8; refine (hm8 _).mono ?_; rintro e w' ⟨rfl, rfl⟩; rw [← HW.out]))
          go_roundw
          case rel => exact ⟨k + 1, h, outs, by omega, by go_num, rfl, HN.out, HLA.out⟩
          case measure => simp [intOf]; omega
        | false =>
          have hg' : (bits .and .u8 (G / 2 ^ i) 1 == 1) = false := hg
          cases fi with
          | false =>
            have HN : Hid (run G xi qpos qm (rqOf T M) h0 (k + 1) = some (h, outs)) := hid (by rw [HST.out, if_neg HKQ.out, hg]; rfl)
            clear hg ca cb fa fb
            go_wp2_with (first | (go_at_call 8; refine (hm8 _).mono ?_; rintro e w' ⟨rfl, rfl⟩; rw [← HW.out]) | (go_at_call 12; refine hfi.mono ?_; rintro e w' ⟨rfl, rfl⟩))
            go_roundw
            case rel => exact ⟨k + 1, h, outs, by omega, by go_num, rfl, HN.out, HLA.out⟩
            case measure => simp [intOf]; omega
          | true =>
            have HN : Hid (run G xi qpos qm (rqOf T M) h0 (k + 1) = some (struck i h ++ [(i, m3)], if blk i m3 xi qm = true then outs ++ [i] else outs)) := hid (by rw [HST.out, if_neg HKQ.out, hg]; rfl)
            have HL3 := hid ((HLA.out.strike i).add i m3)
            clear hg
            have hl1 : SB < W1.heap.size := by have := HLA.out.mod.size; omega
            have hl2 : SB + 1 < W1.heap.size := by have := HLA.out.mod.size; omega
            by_cases hix : i = xi
            · subst hix
              have hblk : blk i m3 i qm = false := by simp [blk]
              rw [hblk, if_neg (by decide)] at HN
              clear hblk
              cases hb1 : (m3 == 1) with
              | true =>
                rw [hb1, if_pos rfl] at HL3
                go_wp2_with (first | (go_at_call 8; refine (hm8 _).mono ?_; rintro e w' ⟨rfl, rfl⟩; rw [← HW.out]) | (go_at_call 12; refine hfi.mono ?_; rintro e w' ⟨rfl, rfl⟩))
                go_roundw
                case rel => exact ⟨k + 1, _, outs, by omega, by go_num, rfl, HN.out, HL3.out⟩
                case measure => simp [intOf]; omega
              | false =>
                rw [hb1, if_neg (by decide)] at HL3
                go_wp2_with (first | (go_at_call 8; refine (hm8 _).mono ?_; rintro e w' ⟨rfl, rfl⟩; rw [← HW.out]) | (go_at_call 12; refine hfi.mono ?_; rintro e w' ⟨rfl, rfl⟩))
                go_roundw
                case rel => exact ⟨k + 1, _, outs, by omega, by go_num, rfl, HN.out, HL3.out⟩
                case measure => simp [intOf]; omega
            · have hxd : ((i : Int) == (xi : Int)) = false := by simp; omega
              have hxn : ¬ (i : Int) = (xi : Int) := by omega
              obtain ⟨i3, hi3, hy0, hy1, hy2⟩ := info_parts info3
              cases hb1 : (m3 == 1) with
              | true =>
                rw [hb1, if_pos rfl] at HL3
                cases hq1 : (qm == 1) with
                | true =>
                  have hblk : blk i m3 xi qm = false := by simp [blk, hb1, hq1]
                  rw [hblk, if_neg (by decide)] at HN
                  clear hblk hix
                  go_wp2_with (first | (go_at_call 8; refine (hm8 _).mono ?_; rintro e w' ⟨rfl, rfl⟩; rw [← HW.out]) | (go_at_call 12; refine hfi.mono ?_; rintro e w' ⟨rfl, rfl⟩))
                  go_roundw
                  case rel => exact ⟨k + 1, _, outs, by omega, by go_num, rfl, HN.out, HL3.out⟩
                  case measure => simp [intOf]; omega
                | false =>
                  have hblk : blk i m3 xi qm = true := by simp [blk, hb1, hq1, hix]
                  rw [hblk, if_pos rfl] at HN
                  clear hblk hix
                  obtain ⟨W3, hW3⟩ : ∃ W3, W3 = (((W1.setCell ⟨SB, i, none⟩ (.bool false)).setCell ⟨SB + 1, i, none⟩ (.bool false)).setCell ⟨SB, i, none⟩ (.bool true)) := ⟨_, rfl⟩
                  rw [← hW3] at HL3
                  have hout := HL3.out.own
                  have hol := HLT.out.2.2.2
                  have hs3 := HL3.out.mod.size
                  have hbC : Below W3.heap.size W3 (W3.alloc (.cells #[.int .i64 (i : Int)] 3)) := (Below.refl _ _).alloc (Nat.le_refl _) _
                  have hnew : ∀ (j : Nat) (u : Value), [Value.int .i64 (i : Int)][j]? = some u → (W3.alloc (.cells #[.int .i64 (i : Int)] 3)).cell? ((⟨W3.heap.size, 0, none⟩ : Addr).add j) = some u := World.news_of_block (blk_alloc_new _ _)
                  have hone : ∀ u ∈ [Value.int .i64 (i : Int)], u.oneCell' = true := by intro u hu; simp at hu; subst hu; rfl
                  have h63 : outs.length + 1 ≤ maxLen := by unfold maxLen; omega
                  have hbase : SB + 2 ≤ (W3.alloc (.cells #[.int .i64 (i : Int)] 3)).heap.size := by rw [nblk_alloc]; omega
                  have HPU := hid (fun g5 cap5 w5 h1 h2 => HL3.out.push (g := g5) (cap := cap5) (w1 := w5) hbC i h1 h2)
                  have HOU := hid (hout.alloc (.cells #[.int .i64 (i : Int)] 3))
                  have HW3 := hid hW3
                  clear hout hbC HL3 hW3
                  go_upto_region 66 with (first | (go_at_call 8; refine (hm8 _).mono ?_; rintro e w' ⟨rfl, rfl⟩; rw [← HW.out]) | (go_at_call 12; refine hfi.mono ?_; rintro e w' ⟨rfl, rfl⟩))
                  rw [← HW3.out]
                  go_wp2_with ((at_builtin; refine wpList_append_lies _ rfl (.tmp 266) (.tmp 268) 30 rfl (SB + 2) 3 i3 (.int .i64 0) 1 8 Yba.underlying30 hi3 hy0 hy1 hy2 rfl (by omega) u32 outs.length (outs.map fun t : Nat => Value.int .i64 (t : Int)) rfl HOU.out ⟨W3.heap.size, 0, none⟩ 1 1 [.int .i64 (i : Int)] rfl rfl hnew hone (by omega) h63 (by omega) hbase (W3.heap.size + 1) (by simp) ?_; intro g5 cap5 w5 ho5 hgr5 hat5 hlt5; have HX := hid (HPU.out g5 cap5 w5 ho5 hgr5); clear ho5 hgr5 hat5 hlt5))
                  go_roundw
                  case rel => exact ⟨k + 1, _, _, by omega, by go_num, rfl, HN.out, HX.out⟩
                  case measure => simp [intOf]; omega
              | false =>
                rw [hb1, if_neg (by decide)] at HL3
                have hblk : blk i m3 xi qm = true := by simp [blk, hb1, hix]
                rw [hblk, if_pos rfl] at HN
                clear hblk hix
                obtain ⟨W3, hW3⟩ : ∃ W3, W3 = (((W1.setCell ⟨SB, i, none⟩ (.bool false)).setCell ⟨SB + 1, i, none⟩ (.bool false)).setCell ⟨SB + 1, i, none⟩ (.bool true)) := ⟨_, rfl⟩
                rw [← hW3] at HL3
                have hout := HL3.out.own
                have hol := HLT.out.2.2.2
                have hs3 := HL3.out.mod.size
                have hbC : Below W3.heap.size W3 (W3.alloc (.cells #[.int .i64 (i : Int)] 3)) := (Below.refl _ _).alloc (Nat.le_refl _) _
                have hnew : ∀ (j : Nat) (u : Value), [Value.int .i64 (i : Int)][j]? = some u → (W3.alloc (.cells #[.int .i64 (i : Int)] 3)).cell? ((⟨W3.heap.size, 0, none⟩ : Addr).add j) = some u := World.news_of_block (blk_alloc_new _ _)
                have hone : ∀ u ∈ [Value.int .i64 (i : Int)], u.oneCell' = true := by intro u hu; simp at hu; subst hu; rfl
                have h63 : outs.length + 1 ≤ maxLen := by unfold maxLen; omega
                have hbase : SB + 2 ≤ (W3.alloc (.cells #[.int .i64 (i : Int)] 3)).heap.size := by rw [nblk_alloc]; omega
                have HPU := hid (fun g5 cap5 w5 h1 h2 => HL3.out.push (g := g5) (cap := cap5) (w1 := w5) hbC i h1 h2)
                have HOU := hid (hout.alloc (.cells #[.int .i64 (i : Int)] 3))
                have HW3 := hid hW3
                clear hout hbC HL3 hW3
                go_upto_region 66 with (first | (go_at_call 8; refine (hm8 _).mono ?_; rintro e w' ⟨rfl, rfl⟩; rw [← HW.out]) | (go_at_call 12; refine hfi.mono ?_; rintro e w' ⟨rfl, rfl⟩))
                rw [← HW3.out]
                go_wp2_with ((at_builtin; refine wpList_append_lies _ rfl (.tmp 266) (.tmp 268) 30 rfl (SB + 2) 3 i3 (.int .i64 0) 1 8 Yba.underlying30 hi3 hy0 hy1 hy2 rfl (by omega) u32 outs.length (outs.map fun t : Nat => Value.int .i64 (t : Int)) rfl HOU.out ⟨W3.heap.size, 0, none⟩ 1 1 [.int .i64 (i : Int)] rfl rfl hnew hone (by omega) h63 (by omega) hbase (W3.heap.size + 1) (by simp) ?_; intro g5 cap5 w5 ho5 hgr5 hat5 hlt5; have HX := hid (HPU.out g5 cap5 w5 ho5 hgr5); clear ho5 hgr5 hat5 hlt5))
                go_roundw
                case rel => exact ⟨k + 1, _, _, by omega, by go_num, rfl, HN.out, HX.out⟩
                case measure => simp [intOf]; omega
    · have hk0 : n = k := by omega
      subst hk0
      go_wp2
      exact ⟨hL.mod.below, by rw [HR.out]; exact ⟨rfl, hL.own⟩⟩

end Go.Proofs.Ybulkecuo.B
