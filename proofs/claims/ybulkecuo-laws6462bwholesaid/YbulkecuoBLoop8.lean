import Derived.Test.YbulkecuoBLinks
import Derived.Deep.QuietTactic
namespace Go.Proofs.Ybulkecuo.B
set_option linter.unusedVariables false
set_option linter.unusedSimpArgs false
open Go.RowKit Go.Deep

set_option maxRecDepth 1000000 in
set_option maxHeartbeats 4000000 in
/-- The queue stands as it was. -/
theorem loop8 (w0 : World) (gb R NB n c1 : Nat) (Nd : Nat → Nat) (a1 : Option Addr) (T M : Nat → Int) (hc : Came2 w0 a1 n T M) (hn : n ≤ 65536) (bT : ∀ i, 0 ≤ T i ∧ T i ≤ 255) (bM : ∀ i, 0 ≤ M i ∧ M i ≤ 255) (hpool : ∀ i, i < 8 → w0.cell? ⟨gb + 1, i, none⟩ = some (.pointer (some ⟨gb + 2 + i, 0, none⟩))) (hblkT : ∀ i, i < 8 → IsBlk w0 (gb + 2 + i)) (hblkR : IsBlk w0 R) (hblkN : ∀ j, j < n → IsBlk w0 (Nd j)) (hnodes : ∀ j, j < n → w0.cell? ⟨NB, j, none⟩ = some (.pointer (some ⟨Nd j, 0, none⟩)))
    (hn0 : ∀ j, j < n → w0.cell? ⟨Nd j, 0, none⟩ = some (.pointer (some ⟨gb + 2 + (T j % 8).toNat, 0, none⟩))) (hn1 : ∀ j, j < n → w0.cell? ⟨Nd j, 1, none⟩ = some (.pointer (some ⟨R, 0, none⟩))) (hn2 : ∀ j, j < n → w0.cell? ⟨Nd j, 2, none⟩ = some (.int .u8 (M j % 3))) (hn5 : ∀ j, j < n → w0.cell? ⟨Nd j, 5, none⟩ = some (nxt Nd n (j + 1)))
    (Q : Exit → Act → World → Prop) (s0 s1 s2 s3 s4 s5 s6 s7 s8 s10 s12 s13 s15 s16 s17 s18 s19 s20 s21 s22 s23 s24 s25 s26 s27 s28 s29 s30 s31 s32 s33 s34 s35 s36 s37 s38 s39 s40 s41 s42 s43 s44 s45 s46 s47 s48 s49 s50 s51 s52 s53 s54 s55 s56 s57 s58 s59 s60 s61 s62 s63 s64 s65 s66 s67 s68 s69 s70 s71 s72 s73 s74 s75 s76 s77 s78 s79 s80 s81 s82 s83 s84 s85 s86 s87 s88 s89 s90 s91 s92 s93 s94 s95 s96 s97 s98 s99 s100 s101 s102 s103 s104 s105 s106 s107 s108 s109 s110 s111 s112 s113 s114 s115 s116 s117 s118 s119 s120 s121 s122 s123 s124 s125 s126 s127 s128 s129 s130 s131 s132 s133 s134 s135 s136 s137 s138 s139 s140 s141 s142 s143 s144 s145 s146 s147 s148 s149 s150 s151 s152 s153 s154 s155 s156 s157 s158 s159 s160 s161 s162 s163 s164 s165 s166 s167 s168 s169 s170 s171 s172 s173 s174 s175 s176 s177 s178 s179 s180 s181 s182 s183 s184 s185 s186 s187 s188 s189 s190 s191 s192 s193 s194 s195 s196 s197 s198 s199 s200 s201 s202 s203 s204 s205 s206 s207 s208 s209 s210 s211 s212 s213 s214 s215 s216 s217 s218 s219 s220 s221 s222 s223 s224 s225 s226 s227 s228 s229 s230 s231 s232 s233 s234 s235 s236 s237 s238 s239 s240 s241 s242 s243 s244 s245 s246 s247 s248 s249 s250 s251 s252 s253 s254 s255 s256 s257 s258 s259 s260 s261 s262 s263 s264 s265 s266 s267 s268 s269 s270 s271 s272 s273 s274 s275 s276 s277 s278 s279 s280 s281 s282 s283 s284 s285 s286 s287 s288 s289 s290 s291 s292 s293 s294 s295 s296 s297 s298 s299 s300 s301 s302 s303 s304 s305 s306 s307 s308 s309 s310 s311 s312 s313 s314 s315 s316 s317 s318 s319 s320 s321 s322 s323 s324 s325 s326 s327 s328 s329 s330 s331 s332 s333 s334 s335 s336 s337 s338 s339 s340 s341 s345 s346 s347 s348 s349 s350 s351 s352 s353 s354 s355 s356 s357 s358 s359 s360 s361 s362 s363 s364 s365 s366 s367 s368 s369 s370 s371 s372 s373 s374 s375 s376 s377 s378 s379 s380 s381 s382 s383 s384 s385 s386 s387 s388 s389 s390 s391 s392 s393 s394 s395 s396 s397 s398 s399 s400 s401 s402 s403 s404 s405 s406 s407 : Value)
    (hQ : ∀ (v8 v39 v40 v41 v344 v345 v346 v347 v348 v349 v350 v351 v352 v353 v354 v355 v356 v357 v358 v359 v360 v361 v362 v363 v364 v365 v366 v367 v368 v369 v370 v371 v372 v373 v374 v375 v376 v377 v378 v379 v380 v381 v382 v383 v384 v385 v386 v387 v388 v389 v390 v391 v392 v393 v394 v395 v396 v397 v398 v399 v400 v401 v402 v403 v404 v405 v406 v407 : Value) (w1 : World), Below w0.heap.size w0 w1 → Q .normal ⟨#[s0, s1, s2, s3, s4, s5, s6, s7, v8, .pointer (some ⟨gb + 1, 0, none⟩), s10, .pointer (some ⟨R, 0, none⟩), s12, s13, .slice (some ⟨NB, 0, none⟩) n n, s15, s16, s17, s18, s19, s20, s21, s22, s23, s24, s25, s26, s27, s28, s29, s30, s31, s32, s33, s34, s35, s36, s37, s38, v39, v40, v41, s42, s43, s44, s45, s46, s47, s48, s49, s50, s51, s52, s53, s54, s55, s56, s57, s58, s59, s60, s61, s62, s63, s64, s65, s66, s67, s68, s69, s70, s71, s72, s73, s74, s75, s76, s77, s78, s79, s80, s81, s82, s83, s84, s85, s86, s87, s88, s89, s90, s91, s92, s93, s94, s95, s96, s97, s98, s99, s100, s101, s102, s103, s104, s105, s106, s107, s108, s109, s110, s111, s112, s113, s114, s115, s116, s117, s118, s119, s120, s121, s122, s123, s124, s125, s126, s127, s128, s129, s130, s131, s132, s133, s134, s135, s136, s137, s138, s139, s140, s141, s142, s143, s144, s145, s146, s147, s148, s149, s150, s151, s152, s153, s154, s155, s156, s157, s158, s159, s160, s161, s162, s163, s164, s165, s166, s167, s168, s169, s170, s171, s172, s173, s174, s175, s176, s177, s178, s179, s180, s181, s182, s183, s184, s185, s186, s187, s188, s189, s190, s191, s192, s193, s194, s195, s196, s197, s198, s199, s200, s201, s202, s203, s204, s205, s206, s207, s208, s209, s210, s211, s212, s213, s214, s215, s216, s217, s218, s219, s220, s221, s222, s223, s224, s225, s226, s227, s228, s229, s230, s231, s232, s233, s234, s235, s236, s237, s238, s239, s240, s241, s242, s243, s244, s245, s246, s247, s248, s249, s250, s251, s252, s253, s254, s255, s256, s257, s258, s259, s260, s261, s262, s263, s264, s265, s266, s267, s268, s269, s270, s271, s272, s273, s274, s275, s276, s277, s278, s279, s280, s281, s282, s283, s284, s285, s286, s287, s288, s289, s290, s291, s292, s293, s294, s295, s296, s297, s298, s299, s300, s301, s302, s303, s304, s305, s306, s307, s308, s309, s310, s311, s312, s313, s314, s315, s316, s317, s318, s319, s320, s321, s322, s323, s324, s325, s326, s327, s328, s329, s330, s331, s332, s333, s334, s335, s336, s337, s338, s339, s340, s341, .slice a1 n c1, .int .i64 (n : Int), v344, v345, v346, v347, v348, v349, v350, v351, v352, v353, v354, v355, v356, v357, v358, v359, v360, v361, v362, v363, v364, v365, v366, v367, v368, v369, v370, v371, v372, v373, v374, v375, v376, v377, v378, v379, v380, v381, v382, v383, v384, v385, v386, v387, v388, v389, v390, v391, v392, v393, v394, v395, v396, v397, v398, v399, v400, v401, v402, v403, v404, v405, v406, v407], []⟩ w1) :
    Code.wp Yba.prog ((Yba.f4.body.bind (findLoop 82)).getD .skip) (Exit.inBlock 14 Q) ⟨#[s0, s1, s2, s3, s4, s5, s6, s7, s8, .pointer (some ⟨gb + 1, 0, none⟩), s10, .pointer (some ⟨R, 0, none⟩), s12, s13, .slice (some ⟨NB, 0, none⟩) n n, s15, s16, s17, s18, s19, s20, s21, s22, s23, s24, s25, s26, s27, s28, s29, s30, s31, s32, s33, s34, s35, s36, s37, s38, s39, s40, s41, s42, s43, s44, s45, s46, s47, s48, s49, s50, s51, s52, s53, s54, s55, s56, s57, s58, s59, s60, s61, s62, s63, s64, s65, s66, s67, s68, s69, s70, s71, s72, s73, s74, s75, s76, s77, s78, s79, s80, s81, s82, s83, s84, s85, s86, s87, s88, s89, s90, s91, s92, s93, s94, s95, s96, s97, s98, s99, s100, s101, s102, s103, s104, s105, s106, s107, s108, s109, s110, s111, s112, s113, s114, s115, s116, s117, s118, s119, s120, s121, s122, s123, s124, s125, s126, s127, s128, s129, s130, s131, s132, s133, s134, s135, s136, s137, s138, s139, s140, s141, s142, s143, s144, s145, s146, s147, s148, s149, s150, s151, s152, s153, s154, s155, s156, s157, s158, s159, s160, s161, s162, s163, s164, s165, s166, s167, s168, s169, s170, s171, s172, s173, s174, s175, s176, s177, s178, s179, s180, s181, s182, s183, s184, s185, s186, s187, s188, s189, s190, s191, s192, s193, s194, s195, s196, s197, s198, s199, s200, s201, s202, s203, s204, s205, s206, s207, s208, s209, s210, s211, s212, s213, s214, s215, s216, s217, s218, s219, s220, s221, s222, s223, s224, s225, s226, s227, s228, s229, s230, s231, s232, s233, s234, s235, s236, s237, s238, s239, s240, s241, s242, s243, s244, s245, s246, s247, s248, s249, s250, s251, s252, s253, s254, s255, s256, s257, s258, s259, s260, s261, s262, s263, s264, s265, s266, s267, s268, s269, s270, s271, s272, s273, s274, s275, s276, s277, s278, s279, s280, s281, s282, s283, s284, s285, s286, s287, s288, s289, s290, s291, s292, s293, s294, s295, s296, s297, s298, s299, s300, s301, s302, s303, s304, s305, s306, s307, s308, s309, s310, s311, s312, s313, s314, s315, s316, s317, s318, s319, s320, s321, s322, s323, s324, s325, s326, s327, s328, s329, s330, s331, s332, s333, s334, s335, s336, s337, s338, s339, s340, s341, .slice a1 n c1, .int .i64 (n : Int), .int .i64 0, s345, s346, s347, s348, s349, s350, s351, s352, s353, s354, s355, s356, s357, s358, s359, s360, s361, s362, s363, s364, s365, s366, s367, s368, s369, s370, s371, s372, s373, s374, s375, s376, s377, s378, s379, s380, s381, s382, s383, s384, s385, s386, s387, s388, s389, s390, s391, s392, s393, s394, s395, s396, s397, s398, s399, s400, s401, s402, s403, s404, s405, s406, s407], []⟩ w0 := by
  conv => arg 2; whnf
  conv => arg 4; dsimp only
  go_loopw [344] (fun i wx => ∃ k : Nat, k ≤ n ∧ i = .int .i64 k ∧ Below w0.heap.size w0 wx) (fun i _ => n - (intOf i).toNat)
  case atStart => exact ⟨0, Nat.zero_le _, rfl, Below.refl _ _⟩
  case round =>
    obtain ⟨k, hk, rfl, hB⟩ := hrel
    by_cases hlt : k < n
    · obtain ⟨b, off, rfl, hcs⟩ := hc k hlt
      have hck := hcs k hlt
      have lb := lt_of_cell hck.1
      have d0 := cell_keep hB lb hck.1
      have d1 := cell_keep hB lb hck.2
      obtain ⟨tt, ett⟩ : ∃ tt, tt = T k := ⟨_, rfl⟩
      obtain ⟨mm, emm⟩ : ∃ mm, mm = M k := ⟨_, rfl⟩
      have bt := bT k
      have bm := bM k
      obtain ⟨i, hi⟩ : ∃ i : Nat, (T k % 8) = (i : Int) := ⟨(T k % 8).toNat, by omega⟩
      have hi8 : i < 8 := by omega
      have z0 := hn0 k hlt
      have z1 := hn1 k hlt
      have z2 := hn2 k hlt
      have z5 := hn5 k hlt
      rw [hi, Int.toNat_natCast] at z0
      rw [← ett] at d0 bt hi
      rw [← emm] at d1 bm z2
      obtain ⟨ht0, ht1⟩ := bt
      obtain ⟨hm0, hm1⟩ := bm
      have hti2 : tt.tmod 8 = (i : Int) := by rw [Int.tmod_eq_emod_of_nonneg ht0]; exact hi
      clear ett emm hck hcs
      have i0 : (0 : Int) ≤ (k : Int) := by omega
      have i1 : (k : Int) < (n : Int) := by omega
      have j0 : (0 : Int) ≤ (i : Int) := by omega
      have j1 : (i : Int) < 8 := by omega
      have lbw : b < wr.heap.size := lt_of_cell d0
      have hw1 : IntKind.i64.wrap ((k : Int) + 1) = (k : Int) + 1 := by rw [IntKind.wrap_i64]; omega
      obtain ⟨W1, hW1⟩ : ∃ W1, W1 = wr.alloc (.cells #[.int .u8 tt, .int .u8 mm] 54) := ⟨_, rfl⟩
      have hB1 : Below w0.heap.size w0 W1 := by rw [hW1]; exact hB.alloc hB.size _
      have e0 : W1.cell? ⟨wr.heap.size, 0, none⟩ = some (.int .u8 tt) := by rw [hW1]; simp
      have e1 : W1.cell? ⟨wr.heap.size, 1, none⟩ = some (.int .u8 mm) := by rw [hW1]; simp
      have kp : ∀ {b o : Nat} {u : Value}, w0.cell? ⟨b, o, none⟩ = some u → W1.cell? ⟨b, o, none⟩ = some u := fun hh => cell_keep hB1 (lt_of_cell hh) hh
      have y0 := kp z0
      have y1 := kp z1
      have y2 := kp z2
      have y5 := kp z5
      have yn := kp (hnodes k hlt)
      have yp := kp (hpool i hi8)
      have q47 := fun d => neq47 (W1.drewN d) (gb + 2 + i) (gb + 2 + i) (blk_keep hB1 (blk_lt (hblkT i hi8)) (hblkT i hi8)) (blk_keep hB1 (blk_lt (hblkT i hi8)) (hblkT i hi8))
      have q27 := fun d => neq27 (W1.drewN d) R R (blk_keep hB1 (blk_lt hblkR) hblkR) (blk_keep hB1 (blk_lt hblkR) hblkR)
      have hm8 := fun W => mode_any mm hm0 hm1 W
      have HB := hid hB
      have HB1 := hid hB1
      have HW := hid hW1
      simp only [decide_true, Bool.not_true] at q47 q27
      clear kp z0 z1 z2 z5 hB hB1 hW1
      by_cases hlast : k + 1 < n
      · have yx := cell_keep HB1.out (lt_of_cell (hnodes (k + 1) hlast)) (hnodes (k + 1) hlast)
        have yxr := cell_keep HB.out (lt_of_cell (hnodes (k + 1) hlast)) (hnodes (k + 1) hlast)
        have lnb := lt_of_cell yxr
        have hbk : IsBlk W1 (Nd (k + 1)) := blk_keep HB1.out (blk_lt (hblkN (k + 1) hlast)) (hblkN (k + 1) hlast)
        have q26 := fun d => neq26 (W1.drewN d) (Nd (k + 1)) (Nd (k + 1)) hbk hbk
        simp only [decide_true, Bool.not_true] at q26
        simp only [nxt, if_pos hlast] at y5
        have i2 : decide ((k : Int) + 1 < (n : Int)) = true := by simp; omega
        have i3 : (k : Int) + 1 < (n : Int) := by omega
        have i4 : (0 : Int) ≤ (k : Int) + 1 := by omega
        have i5 : ((k : Int) + 1).toNat = k + 1 := by omega
        clear hlast
        go_wp2_with fail
        rw [← HW.out]
        clear d0 d1 lb lbw HW
        go_quiet ((go_at_call 8; exact Calls.quiet_of ((hm8 _).mono fun e w' hh => ⟨hh.1, 0, hh.2⟩)))
        obtain ⟨W2, hW2⟩ : ∃ W2, W2 = W1.drewN nq := ⟨_, rfl⟩
        rw [← hW2]
        have HB2 : Hid (Below w0.heap.size w0 W2) := hid (by rw [hW2]; exact below_drewN HB1.out nq)
        clear hW2
        go_wp2
        go_roundw
        case rel => exact ⟨k + 1, by omega, by go_num, HB2.out⟩
        case measure => simp [intOf]; omega
      · have i2 : decide ((k : Int) + 1 < (n : Int)) = false := by simp; omega
        simp only [nxt, if_neg hlast] at y5
        clear hlast
        go_wp2_with fail
        rw [← HW.out]
        clear d0 d1 lb lbw HW
        go_quiet ((go_at_call 8; exact Calls.quiet_of ((hm8 _).mono fun e w' hh => ⟨hh.1, 0, hh.2⟩)))
        obtain ⟨W2, hW2⟩ : ∃ W2, W2 = W1.drewN nq := ⟨_, rfl⟩
        rw [← hW2]
        have HB2 : Hid (Below w0.heap.size w0 W2) := hid (by rw [hW2]; exact below_drewN HB1.out nq)
        clear hW2
        go_wp2
        go_roundw
        case rel => exact ⟨k + 1, by omega, by go_num, HB2.out⟩
        case measure => simp [intOf]; omega
    · have hk0 : n = k := by omega
      subst hk0
      go_wp2
      exact hB

end Go.Proofs.Ybulkecuo.B
