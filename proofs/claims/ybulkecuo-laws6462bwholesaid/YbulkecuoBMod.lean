import Derived.Test.YbulkecuoBHold
namespace Go.Proofs.Ybulkecuo.B
set_option linter.unusedVariables false
set_option linter.unusedSimpArgs false
open Go.RowKit Go.Deep

/-- Who holds in S, who in another mode. -/
def hS (h : List (Nat × Int)) (i : Nat) : Bool := h.any fun e => decide (e.1 = i) && (e.2 == 1)
def hX (h : List (Nat × Int)) (i : Nat) : Bool := h.any fun e => decide (e.1 = i) && !(e.2 == 1)

theorem hS_app (h : List (Nat × Int)) (e : Nat × Int) (i : Nat) : hS (h ++ [e]) i = (hS h i || (decide (e.1 = i) && (e.2 == 1))) := by simp [hS, List.any_append]
theorem hX_app (h : List (Nat × Int)) (e : Nat × Int) (i : Nat) : hX (h ++ [e]) i = (hX h i || (decide (e.1 = i) && !(e.2 == 1))) := by simp [hX, List.any_append]

theorem mf_fits (h : List (Nat × Int)) (hh : ∀ e ∈ h, e.1 < 8) (y : Nat) (o : Int) : mf (hS h) (hX h) y o = fitsL h y o := by
  rw [Bool.eq_iff_iff]
  constructor
  · intro hm
    unfold mf at hm
    rw [List.all_eq_true] at hm
    unfold fitsL
    rw [Bool.not_eq_true', List.any_eq_false]
    intro e he hb
    have h1 := hm e.1 (List.mem_range.2 (hh e he))
    unfold mf1 at h1
    unfold blk at hb
    simp only [Bool.and_eq_true, Bool.not_eq_true', decide_eq_false_iff_not, Bool.and_eq_false_iff, beq_eq_false_iff_ne, ne_eq] at hb
    simp only [Bool.or_eq_true, decide_eq_true_eq, Bool.and_eq_true, Bool.not_eq_true', Bool.and_eq_false_iff, Bool.not_eq_false', beq_iff_eq] at h1
    rcases h1 with h1 | ⟨h1, h2⟩
    · exact hb.1 h1
    · by_cases e1 : e.2 = 1
      · rcases hb.2 with h3 | h3
        · exact h3 e1
        · rcases h2 with h2 | h2
          · unfold hS at h2
            rw [List.any_eq_false] at h2
            exact h2 e he (by simp [e1])
          · exact h3 h2
      · unfold hX at h1
        rw [List.any_eq_false] at h1
        exact h1 e he (by simp [e1])
  · intro hf
    unfold fitsL at hf
    rw [Bool.not_eq_true', List.any_eq_false] at hf
    unfold mf
    rw [List.all_eq_true]
    intro i _
    unfold mf1
    by_cases hy : i = y
    · simp [hy]
    · have hx : hX h i = false := by
        unfold hX
        rw [List.any_eq_false]
        intro e he hb
        simp only [Bool.and_eq_true, decide_eq_true_eq, Bool.not_eq_true', beq_eq_false_iff_ne, ne_eq] at hb
        refine hf e he ?_
        unfold blk
        simp [hb.1, hy, hb.2]
      by_cases ho : o = 1
      · simp [hx, ho]
      · have hs : hS h i = false := by
          unfold hS
          rw [List.any_eq_false]
          intro e he hb
          simp only [Bool.and_eq_true, decide_eq_true_eq] at hb
          refine hf e he ?_
          unfold blk
          simp [hb.1, hy, ho]
        simp [hx, hs]

theorem row_below {B : Nat} {w w' : World} (hb : Below B w w') {N : Nat} (hN : N < B) {t : TypeId} {n : Nat} {f : Nat → Value} (h : w.rowIs N t n f) : w'.rowIs N t n f := by
  obtain ⟨c, h1, h2, h3⟩ := h
  exact ⟨c, (hb.block N hN).trans h1, h2, h3⟩

/-- The model's two rows. -/
structure Mod (wm wr : World) (SB : Nat) (h : List (Nat × Int)) : Prop where
  below : Below SB wm wr
  size : SB + 2 ≤ wr.heap.size
  a : wr.rowIs SB 82 8 (fun i => .bool (hS h i))
  b : wr.rowIs (SB + 1) 82 8 (fun i => .bool (hX h i))

theorem Mod.keep {wm wr wx : World} {SB : Nat} {h : List (Nat × Int)} (hM : Mod wm wr SB h) (hb : Below wr.heap.size wr wx) : Mod wm wx SB h :=
  ⟨hM.below.trans (hb.mono (by have := hM.size; omega)), Nat.le_trans hM.size hb.size, row_below hb (by have := hM.size; omega) hM.a, row_below hb (by have := hM.size; omega) hM.b⟩

theorem mod_zero (wm : World) (SB : Nat) (hSB : SB = wm.heap.size) : Mod wm ((wm.alloc (.cells #[.bool false, .bool false, .bool false, .bool false, .bool false, .bool false, .bool false, .bool false] 82)).alloc (.cells #[.bool false, .bool false, .bool false, .bool false, .bool false, .bool false, .bool false, .bool false] 82)) SB [] := by
  subst hSB
  have hrow : ∀ (w : World), (w.alloc (.cells #[.bool false, .bool false, .bool false, .bool false, .bool false, .bool false, .bool false, .bool false] 82)).rowIs w.heap.size 82 8 (fun _ => .bool false) := fun w => ⟨#[.bool false, .bool false, .bool false, .bool false, .bool false, .bool false, .bool false, .bool false], blk_alloc_new _ _, rfl, fun i hi => by
    match i, hi with
    | 0, _ | 1, _ | 2, _ | 3, _ | 4, _ | 5, _ | 6, _ | 7, _ => rfl⟩
  refine ⟨((Below.refl _ _).alloc (Nat.le_refl _) _).alloc (by rw [nblk_alloc]; omega) _, by simp [nblk_alloc], ?_, ?_⟩
  · exact ((hrow wm).alloc _).congr fun i _ => by simp [hS]
  · have := hrow (wm.alloc (.cells #[.bool false, .bool false, .bool false, .bool false, .bool false, .bool false, .bool false, .bool false] 82))
    rw [nblk_alloc] at this
    exact this.congr fun i _ => by simp [hX]

/-- One holder more. -/
theorem mod_add {wm wr : World} {SB : Nat} {h : List (Nat × Int)} (hM : Mod wm wr SB h) (i : Nat) (m : Int) :
    Mod wm (wr.setCell ⟨if (m == 1) = true then SB else SB + 1, i, none⟩ (.bool true)) SB (h ++ [(i, m)]) := by
  have hs := hM.size
  by_cases e : (m == 1) = true
  · rw [if_pos e]
    refine ⟨hM.below.setCell (Nat.le_refl _) _, by rw [nblk_setCell]; exact hs, (hM.a.set i _).congr fun j _ => ?_, (hM.b.setOther (a := ⟨SB, i, none⟩) (by simp) _).congr fun j _ => ?_⟩
    · rw [hS_app]
      by_cases hj : j = i
      · subst hj; simp [e]
      · simp [hj, show ¬ i = j from fun h => hj h.symm]
    · rw [hX_app]; simp [e]
  · have e' : (m == 1) = false := by simpa using e
    rw [if_neg e]
    refine ⟨hM.below.setCell (by show SB ≤ SB + 1; omega) _, by rw [nblk_setCell]; exact hs, (hM.a.setOther (a := ⟨SB + 1, i, none⟩) (by simp) _).congr fun j _ => ?_, (hM.b.set i _).congr fun j _ => ?_⟩
    · rw [hS_app]; simp [e']
    · rw [hX_app]
      by_cases hj : j = i
      · subst hj; simp [e']
      · simp [hj, show ¬ i = j from fun h => hj h.symm]

set_option maxRecDepth 1000000 in
set_option maxHeartbeats 4000000 in
/-- The model's holders. -/
theorem loop5 (wm wr : World) (gb SB : Nat) (G : Int) (a0 : Option Addr) (n0 c0 : Nat) (T M : Nat → Int) (hc : Came2 wm a0 n0 T M) (hG : wm.cell? ⟨gb, 0, none⟩ = some (.int .u8 G)) (hGb : 0 ≤ G ∧ G ≤ 255) (hSB : SB ≤ wm.heap.size ∧ wm.heap.size ≤ SB) (hn : n0 ≤ 65536) (bT : ∀ i, 0 ≤ T i ∧ T i ≤ 255) (bM : ∀ i, 0 ≤ M i ∧ M i ≤ 255) (h0 : Mod wm wr SB [])
    (Q : Exit → Act → World → Prop) (s0 s1 s2 s3 s4 s5 s6 s8 s9 s10 s11 s12 s13 s14 s15 s16 s17 s18 s19 s20 s21 s22 s23 s24 s27 s28 s29 s30 s31 s32 s33 s34 s35 s36 s37 s38 s39 s40 s41 s42 s43 s44 s45 s46 s47 s48 s49 s50 s51 s52 s53 s54 s55 s56 s57 s58 s59 s60 s61 s62 s63 s64 s65 s66 s67 s68 s69 s70 s71 s72 s73 s74 s75 s76 s77 s78 s79 s80 s81 s82 s83 s84 s85 s86 s87 s88 s89 s90 s91 s92 s93 s94 s95 s96 s97 s98 s99 s100 s101 s102 s103 s104 s105 s106 s107 s108 s109 s110 s111 s112 s113 s114 s115 s116 s117 s118 s119 s120 s121 s122 s123 s124 s125 s126 s127 s128 s129 s130 s131 s132 s133 s134 s135 s136 s137 s138 s139 s140 s141 s142 s143 s144 s145 s146 s147 s148 s149 s150 s151 s152 s153 s154 s155 s156 s157 s158 s159 s160 s161 s162 s163 s164 s165 s166 s167 s168 s169 s170 s171 s172 s173 s177 s178 s179 s180 s181 s182 s183 s184 s185 s186 s187 s188 s189 s190 s191 s192 s193 s194 s195 s196 s197 s198 s199 s200 s201 s202 s203 s204 s205 s206 s207 s208 s209 s210 s211 s212 s213 s214 s215 s216 s217 s218 s219 s220 s221 s222 s223 s224 s225 s226 s227 s228 s229 s230 s231 s232 s233 s234 s235 s236 s237 s238 s239 s240 s241 s242 s243 s244 s245 s246 s247 s248 s249 s250 s251 s252 s253 s254 s255 s256 s257 s258 s259 s260 s261 s262 s263 s264 s265 s266 s267 s268 s269 s270 s271 s272 s273 s274 s275 s276 s277 s278 s279 s280 s281 s282 s283 s284 s285 s286 s287 s288 s289 s290 s291 s292 s293 s294 s295 s296 s297 s298 s299 s300 s301 s302 s303 s304 s305 s306 s307 s308 s309 s310 s311 s312 s313 s314 s315 s316 s317 s318 s319 s320 s321 s322 s323 s324 s325 s326 s327 s328 s329 s330 s331 s332 s333 s334 s335 s336 s337 s338 s339 s340 s341 s342 s343 s344 s345 s346 s347 s348 s349 s350 s351 s352 s353 s354 s355 s356 s357 s358 s359 s360 s361 s362 s363 s364 s365 s366 s367 s368 s369 s370 s371 s372 s373 s374 s375 s376 s377 s378 s379 s380 s381 s382 s383 s384 s385 s386 s387 s388 s389 s390 s391 s392 s393 s394 s395 s396 s397 s398 s399 s400 s401 s402 s403 s404 s405 s406 s407 : Value)
    (hQ : ∀ (v28 v29 v176 v177 v178 v179 v180 v181 v182 v183 v184 v185 v186 v187 v188 v189 v190 v191 v192 v193 v194 v195 v196 v197 v198 : Value) (w1 : World), Mod wm w1 SB (notGone G (hsTo T M n0) n0) → Q .normal ⟨#[s0, s1, s2, s3, s4, s5, s6, .pointer (some ⟨gb, 0, none⟩), s8, s9, s10, s11, s12, s13, s14, s15, s16, s17, s18, s19, s20, s21, s22, s23, s24, .pointer (some ⟨SB, 0, none⟩), .pointer (some ⟨SB + 1, 0, none⟩), s27, v28, v29, s30, s31, s32, s33, s34, s35, s36, s37, s38, s39, s40, s41, s42, s43, s44, s45, s46, s47, s48, s49, s50, s51, s52, s53, s54, s55, s56, s57, s58, s59, s60, s61, s62, s63, s64, s65, s66, s67, s68, s69, s70, s71, s72, s73, s74, s75, s76, s77, s78, s79, s80, s81, s82, s83, s84, s85, s86, s87, s88, s89, s90, s91, s92, s93, s94, s95, s96, s97, s98, s99, s100, s101, s102, s103, s104, s105, s106, s107, s108, s109, s110, s111, s112, s113, s114, s115, s116, s117, s118, s119, s120, s121, s122, s123, s124, s125, s126, s127, s128, s129, s130, s131, s132, s133, s134, s135, s136, s137, s138, s139, s140, s141, s142, s143, s144, s145, s146, s147, s148, s149, s150, s151, s152, s153, s154, s155, s156, s157, s158, s159, s160, s161, s162, s163, s164, s165, s166, s167, s168, s169, s170, s171, s172, s173, .slice a0 n0 c0, .int .i64 (n0 : Int), v176, v177, v178, v179, v180, v181, v182, v183, v184, v185, v186, v187, v188, v189, v190, v191, v192, v193, v194, v195, v196, v197, v198, s199, s200, s201, s202, s203, s204, s205, s206, s207, s208, s209, s210, s211, s212, s213, s214, s215, s216, s217, s218, s219, s220, s221, s222, s223, s224, s225, s226, s227, s228, s229, s230, s231, s232, s233, s234, s235, s236, s237, s238, s239, s240, s241, s242, s243, s244, s245, s246, s247, s248, s249, s250, s251, s252, s253, s254, s255, s256, s257, s258, s259, s260, s261, s262, s263, s264, s265, s266, s267, s268, s269, s270, s271, s272, s273, s274, s275, s276, s277, s278, s279, s280, s281, s282, s283, s284, s285, s286, s287, s288, s289, s290, s291, s292, s293, s294, s295, s296, s297, s298, s299, s300, s301, s302, s303, s304, s305, s306, s307, s308, s309, s310, s311, s312, s313, s314, s315, s316, s317, s318, s319, s320, s321, s322, s323, s324, s325, s326, s327, s328, s329, s330, s331, s332, s333, s334, s335, s336, s337, s338, s339, s340, s341, s342, s343, s344, s345, s346, s347, s348, s349, s350, s351, s352, s353, s354, s355, s356, s357, s358, s359, s360, s361, s362, s363, s364, s365, s366, s367, s368, s369, s370, s371, s372, s373, s374, s375, s376, s377, s378, s379, s380, s381, s382, s383, s384, s385, s386, s387, s388, s389, s390, s391, s392, s393, s394, s395, s396, s397, s398, s399, s400, s401, s402, s403, s404, s405, s406, s407], []⟩ w1) :
    Code.wp Yba.prog ((Yba.f4.body.bind (findLoop 39)).getD .skip) (Exit.inBlock 8 Q) ⟨#[s0, s1, s2, s3, s4, s5, s6, .pointer (some ⟨gb, 0, none⟩), s8, s9, s10, s11, s12, s13, s14, s15, s16, s17, s18, s19, s20, s21, s22, s23, s24, .pointer (some ⟨SB, 0, none⟩), .pointer (some ⟨SB + 1, 0, none⟩), s27, s28, s29, s30, s31, s32, s33, s34, s35, s36, s37, s38, s39, s40, s41, s42, s43, s44, s45, s46, s47, s48, s49, s50, s51, s52, s53, s54, s55, s56, s57, s58, s59, s60, s61, s62, s63, s64, s65, s66, s67, s68, s69, s70, s71, s72, s73, s74, s75, s76, s77, s78, s79, s80, s81, s82, s83, s84, s85, s86, s87, s88, s89, s90, s91, s92, s93, s94, s95, s96, s97, s98, s99, s100, s101, s102, s103, s104, s105, s106, s107, s108, s109, s110, s111, s112, s113, s114, s115, s116, s117, s118, s119, s120, s121, s122, s123, s124, s125, s126, s127, s128, s129, s130, s131, s132, s133, s134, s135, s136, s137, s138, s139, s140, s141, s142, s143, s144, s145, s146, s147, s148, s149, s150, s151, s152, s153, s154, s155, s156, s157, s158, s159, s160, s161, s162, s163, s164, s165, s166, s167, s168, s169, s170, s171, s172, s173, .slice a0 n0 c0, .int .i64 (n0 : Int), .int .i64 0, s177, s178, s179, s180, s181, s182, s183, s184, s185, s186, s187, s188, s189, s190, s191, s192, s193, s194, s195, s196, s197, s198, s199, s200, s201, s202, s203, s204, s205, s206, s207, s208, s209, s210, s211, s212, s213, s214, s215, s216, s217, s218, s219, s220, s221, s222, s223, s224, s225, s226, s227, s228, s229, s230, s231, s232, s233, s234, s235, s236, s237, s238, s239, s240, s241, s242, s243, s244, s245, s246, s247, s248, s249, s250, s251, s252, s253, s254, s255, s256, s257, s258, s259, s260, s261, s262, s263, s264, s265, s266, s267, s268, s269, s270, s271, s272, s273, s274, s275, s276, s277, s278, s279, s280, s281, s282, s283, s284, s285, s286, s287, s288, s289, s290, s291, s292, s293, s294, s295, s296, s297, s298, s299, s300, s301, s302, s303, s304, s305, s306, s307, s308, s309, s310, s311, s312, s313, s314, s315, s316, s317, s318, s319, s320, s321, s322, s323, s324, s325, s326, s327, s328, s329, s330, s331, s332, s333, s334, s335, s336, s337, s338, s339, s340, s341, s342, s343, s344, s345, s346, s347, s348, s349, s350, s351, s352, s353, s354, s355, s356, s357, s358, s359, s360, s361, s362, s363, s364, s365, s366, s367, s368, s369, s370, s371, s372, s373, s374, s375, s376, s377, s378, s379, s380, s381, s382, s383, s384, s385, s386, s387, s388, s389, s390, s391, s392, s393, s394, s395, s396, s397, s398, s399, s400, s401, s402, s403, s404, s405, s406, s407], []⟩ wr := by
  conv => arg 2; whnf
  conv => arg 4; dsimp only
  go_loopw [176] (fun i wr => ∃ k : Nat, k ≤ n0 ∧ i = .int .i64 k ∧ Mod wm wr SB (notGone G (hsTo T M n0) k)) (fun i _ => n0 - (intOf i).toNat)
  case atStart => exact ⟨0, Nat.zero_le _, rfl, h0⟩
  case round =>
    clear h0
    obtain ⟨k, hk, rfl, hM⟩ := hrel
    by_cases hlt : k < n0
    · obtain ⟨b, off, rfl, hcs⟩ := hc k hlt
      have hck := hcs k hlt
      have lb := lt_of_cell hck.1
      have hbw : Below wm.heap.size wm wr := hM.below.mono hSB.2
      have d0 := cell_keep hbw lb hck.1
      have d1 := cell_keep hbw lb hck.2
      have g0 := cell_keep hbw (lt_of_cell hG) hG
      obtain ⟨tt, ett⟩ : ∃ tt, tt = T k := ⟨_, rfl⟩
      obtain ⟨mm, emm⟩ : ∃ mm, mm = M k := ⟨_, rfl⟩
      have bt := bT k
      have bm := bM k
      obtain ⟨i, hi⟩ : ∃ i : Nat, (T k % 8) = (i : Int) := ⟨(T k % 8).toNat, by omega⟩
      have hi8 : i < 8 := by omega
      have hkl : k < (hsTo T M n0).length := by rw [hsTo_length]; exact hlt
      have hel : (hsTo T M n0)[k] = (i, mm % 3) := by simp [hsTo, hi, emm]
      have hns := notGone_succ G (hsTo T M n0) k hkl
      rw [hel] at hns
      rw [← ett] at d0 bt hi
      rw [← emm] at d1 bm
      obtain ⟨ht0, ht1⟩ := bt
      obtain ⟨hm0, hm1⟩ := bm
      have hti2 : tt.tmod 8 = (i : Int) := by rw [Int.tmod_eq_emod_of_nonneg ht0]; exact hi
      obtain ⟨l, el⟩ : ∃ l, l = notGone G (hsTo T M n0) k := ⟨_, rfl⟩
      rw [← el] at hM hns
      have HNS := hid hns
      clear ett emm hck hcs hel el hns hkl
      have hbA : Below wr.heap.size wr (wr.alloc (.cells #[.int .u8 tt, .int .u8 mm] 54)) := (Below.refl _ _).alloc (Nat.le_refl _) _
      have HMA := hid (hM.keep hbA)
      have HADD := hid (mod_add (hM.keep hbA) i (mm % 3))
      have hsz := hM.size
      have i0 : (0 : Int) ≤ (k : Int) := by omega
      have i1 : (k : Int) < (n0 : Int) := by omega
      have j0 : (0 : Int) ≤ (i : Int) := by omega
      have j1 : (i : Int) < 8 := by omega
      have lbw : b < wr.heap.size := lt_of_cell d0
      have lgw : gb < wr.heap.size := lt_of_cell g0
      have ca := (hM.keep hbA).a.cell hi8
      have cb := (hM.keep hbA).b.cell hi8
      have fa := (hM.keep hbA).a.frozen i
      have fb := (hM.keep hbA).b.frozen i
      have hm8 := fun W => mode_any mm hm0 hm1 W
      clear hM hbA hbw
      obtain ⟨W1, hW1⟩ : ∃ W1, W1 = wr.alloc (.cells #[.int .u8 tt, .int .u8 mm] 54) := ⟨_, rfl⟩
      rw [← hW1] at HMA HADD ca cb fa fb
      have e0 : W1.cell? ⟨wr.heap.size, 0, none⟩ = some (.int .u8 tt) := by rw [hW1]; simp
      have e1 : W1.cell? ⟨wr.heap.size, 1, none⟩ = some (.int .u8 mm) := by rw [hW1]; simp
      have g1 : W1.cell? ⟨gb, 0, none⟩ = some (.int .u8 G) := by rw [hW1]; exact cell_keep ((Below.refl _ _).alloc (Nat.le_refl _) _) lgw g0
      have HW := hid hW1
      clear hW1
      cases hg : goneB G i with
      | true =>
        have hg' : (bits .and .u8 (G / 2 ^ i) 1 == 1) = true := hg
        have HN : Hid (notGone G (hsTo T M n0) (k + 1) = l) := hid (by rw [HNS.out]; simp [hg])
        clear hg ca cb fa fb hm8
        go_wp2
        rw [← HW.out]
        go_roundw
        case rel => exact ⟨k + 1, by omega, by go_num, by rw [HN.out]; exact HMA.out⟩
        case measure => simp [intOf]; omega
      | false =>
        have hg' : (bits .and .u8 (G / 2 ^ i) 1 == 1) = false := hg
        have HN : Hid (notGone G (hsTo T M n0) (k + 1) = l ++ [(i, mm % 3)]) := hid (by rw [HNS.out]; simp [hg])
        obtain ⟨m3, em3⟩ : ∃ m3, m3 = mm % 3 := ⟨_, rfl⟩
        rw [← em3] at HN HADD hm8
        clear hg em3
        cases hb1 : (m3 == 1) with
        | true =>
          rw [hb1, if_pos rfl] at HADD
          go_wp2_with ((go_at_call 8; refine (hm8 _).mono ?_; rintro e w' ⟨rfl, rfl⟩; rw [← HW.out]))
          go_roundw
          case rel => exact ⟨k + 1, by omega, by go_num, by rw [HN.out]; exact HADD.out⟩
          case measure => simp [intOf]; omega
        | false =>
          rw [hb1, if_neg (by decide)] at HADD
          go_wp2_with ((go_at_call 8; refine (hm8 _).mono ?_; rintro e w' ⟨rfl, rfl⟩; rw [← HW.out]))
          go_roundw
          case rel => exact ⟨k + 1, by omega, by go_num, by rw [HN.out]; exact HADD.out⟩
          case measure => simp [intOf]; omega
    · have hk0 : n0 = k := by omega
      subst hk0
      go_wp2
      exact hM

end Go.Proofs.Ybulkecuo.B
