import Derived.Test.YbulkecuoBPool
import Derived.Deep.QuietTactic
namespace Go.Proofs.Ybulkecuo.B
set_option linter.unusedVariables false
set_option linter.unusedSimpArgs false
open Go.RowKit Go.Deep

theorem own_get {w : World} {base g n cap : Nat} {e : TypeId} {xs : List Value} (h : w.ownsRow base e 1 (.slice (some ⟨g, 0, none⟩) n cap) n xs) (j : Nat) (hj : j < n) {u : Value} (hu : xs[j]? = some u) : w.cell? ⟨g, j, none⟩ = some u := by
  have hl := h.1
  exact (h.cellAt j (by omega)).trans hu

set_option maxRecDepth 1000000 in
set_option maxHeartbeats 4000000 in
/-- The answers are those wanted. -/
theorem loop7 (wr : World) (gb b1 b2 m : Nat) (v24 v32 : Value) (outs : List Nat) (h24 : wr.ownsRow b1 47 1 v24 m (outs.map fun t => Value.pointer (some ⟨gb + 2 + t, 0, none⟩))) (h32 : wr.ownsRow b2 3 1 v32 m (outs.map fun t : Nat => Value.int .i64 (t : Int))) (ho8 : ∀ t ∈ outs, t < 8) (hm : m ≤ 65536) (hpool : ∀ i, i < 8 → wr.cell? ⟨gb + 1, i, none⟩ = some (.pointer (some ⟨gb + 2 + i, 0, none⟩))) (hblk : ∀ i, i < 8 → IsBlk wr (gb + 2 + i))
    (Q : Exit → Act → World → Prop) (s0 s1 s2 s3 s4 s5 s6 s7 s8 s10 s11 s12 s13 s14 s15 s16 s17 s18 s19 s20 s21 s22 s23 s25 s26 s27 s28 s29 s30 s31 s33 s34 s35 s36 s37 s38 s39 s40 s41 s42 s43 s44 s45 s46 s47 s48 s49 s50 s51 s52 s53 s54 s55 s56 s57 s58 s59 s60 s61 s62 s63 s64 s65 s66 s67 s68 s69 s70 s71 s72 s73 s74 s75 s76 s77 s78 s79 s80 s81 s82 s83 s84 s85 s86 s87 s88 s89 s90 s91 s92 s93 s94 s95 s96 s97 s98 s99 s100 s101 s102 s103 s104 s105 s106 s107 s108 s109 s110 s111 s112 s113 s114 s115 s116 s117 s118 s119 s120 s121 s122 s123 s124 s125 s126 s127 s128 s129 s130 s131 s132 s133 s134 s135 s136 s137 s138 s139 s140 s141 s142 s143 s144 s145 s146 s147 s148 s149 s150 s151 s152 s153 s154 s155 s156 s157 s158 s159 s160 s161 s162 s163 s164 s165 s166 s167 s168 s169 s170 s171 s172 s173 s174 s175 s176 s177 s178 s179 s180 s181 s182 s183 s184 s185 s186 s187 s188 s189 s190 s191 s192 s193 s194 s195 s196 s197 s198 s199 s200 s201 s202 s203 s204 s205 s206 s207 s208 s209 s210 s211 s212 s213 s214 s215 s216 s217 s218 s219 s220 s221 s222 s223 s224 s225 s226 s227 s228 s229 s230 s231 s232 s233 s234 s235 s236 s237 s238 s239 s240 s241 s242 s243 s244 s245 s246 s247 s248 s249 s250 s251 s252 s253 s254 s255 s256 s257 s258 s259 s260 s261 s262 s263 s264 s265 s266 s267 s268 s269 s270 s271 s272 s273 s274 s275 s276 s277 s278 s279 s280 s281 s282 s283 s284 s285 s286 s290 s291 s292 s293 s294 s295 s296 s297 s298 s299 s300 s301 s302 s303 s304 s305 s306 s307 s308 s309 s310 s311 s312 s313 s314 s315 s316 s317 s318 s319 s320 s321 s322 s323 s324 s325 s326 s327 s328 s329 s330 s331 s332 s333 s334 s335 s336 s337 s338 s339 s340 s341 s342 s343 s344 s345 s346 s347 s348 s349 s350 s351 s352 s353 s354 s355 s356 s357 s358 s359 s360 s361 s362 s363 s364 s365 s366 s367 s368 s369 s370 s371 s372 s373 s374 s375 s376 s377 s378 s379 s380 s381 s382 s383 s384 s385 s386 s387 s388 s389 s390 s391 s392 s393 s394 s395 s396 s397 s398 s399 s400 s401 s402 s403 s404 s405 s406 s407 : Value)
    (hQ : ∀ (v8 v38 v289 v290 v291 v292 v293 v294 v295 v296 v297 v298 v299 v300 v301 v302 v303 : Value) (w1 : World), (∃ d, w1 = wr.drewN d) → Q .normal ⟨#[s0, s1, s2, s3, s4, s5, s6, s7, v8, .pointer (some ⟨gb + 1, 0, none⟩), s10, s11, s12, s13, s14, s15, s16, s17, s18, s19, s20, s21, s22, s23, v24, s25, s26, s27, s28, s29, s30, s31, v32, s33, s34, s35, s36, s37, v38, s39, s40, s41, s42, s43, s44, s45, s46, s47, s48, s49, s50, s51, s52, s53, s54, s55, s56, s57, s58, s59, s60, s61, s62, s63, s64, s65, s66, s67, s68, s69, s70, s71, s72, s73, s74, s75, s76, s77, s78, s79, s80, s81, s82, s83, s84, s85, s86, s87, s88, s89, s90, s91, s92, s93, s94, s95, s96, s97, s98, s99, s100, s101, s102, s103, s104, s105, s106, s107, s108, s109, s110, s111, s112, s113, s114, s115, s116, s117, s118, s119, s120, s121, s122, s123, s124, s125, s126, s127, s128, s129, s130, s131, s132, s133, s134, s135, s136, s137, s138, s139, s140, s141, s142, s143, s144, s145, s146, s147, s148, s149, s150, s151, s152, s153, s154, s155, s156, s157, s158, s159, s160, s161, s162, s163, s164, s165, s166, s167, s168, s169, s170, s171, s172, s173, s174, s175, s176, s177, s178, s179, s180, s181, s182, s183, s184, s185, s186, s187, s188, s189, s190, s191, s192, s193, s194, s195, s196, s197, s198, s199, s200, s201, s202, s203, s204, s205, s206, s207, s208, s209, s210, s211, s212, s213, s214, s215, s216, s217, s218, s219, s220, s221, s222, s223, s224, s225, s226, s227, s228, s229, s230, s231, s232, s233, s234, s235, s236, s237, s238, s239, s240, s241, s242, s243, s244, s245, s246, s247, s248, s249, s250, s251, s252, s253, s254, s255, s256, s257, s258, s259, s260, s261, s262, s263, s264, s265, s266, s267, s268, s269, s270, s271, s272, s273, s274, s275, s276, s277, s278, s279, s280, s281, s282, s283, s284, s285, s286, v32, .int .i64 (m : Int), v289, v290, v291, v292, v293, v294, v295, v296, v297, v298, v299, v300, v301, v302, v303, s304, s305, s306, s307, s308, s309, s310, s311, s312, s313, s314, s315, s316, s317, s318, s319, s320, s321, s322, s323, s324, s325, s326, s327, s328, s329, s330, s331, s332, s333, s334, s335, s336, s337, s338, s339, s340, s341, s342, s343, s344, s345, s346, s347, s348, s349, s350, s351, s352, s353, s354, s355, s356, s357, s358, s359, s360, s361, s362, s363, s364, s365, s366, s367, s368, s369, s370, s371, s372, s373, s374, s375, s376, s377, s378, s379, s380, s381, s382, s383, s384, s385, s386, s387, s388, s389, s390, s391, s392, s393, s394, s395, s396, s397, s398, s399, s400, s401, s402, s403, s404, s405, s406, s407], []⟩ w1) :
    Code.wp Yba.prog ((Yba.f4.body.bind (findLoop 74)).getD .skip) (Exit.inBlock 12 Q) ⟨#[s0, s1, s2, s3, s4, s5, s6, s7, s8, .pointer (some ⟨gb + 1, 0, none⟩), s10, s11, s12, s13, s14, s15, s16, s17, s18, s19, s20, s21, s22, s23, v24, s25, s26, s27, s28, s29, s30, s31, v32, s33, s34, s35, s36, s37, s38, s39, s40, s41, s42, s43, s44, s45, s46, s47, s48, s49, s50, s51, s52, s53, s54, s55, s56, s57, s58, s59, s60, s61, s62, s63, s64, s65, s66, s67, s68, s69, s70, s71, s72, s73, s74, s75, s76, s77, s78, s79, s80, s81, s82, s83, s84, s85, s86, s87, s88, s89, s90, s91, s92, s93, s94, s95, s96, s97, s98, s99, s100, s101, s102, s103, s104, s105, s106, s107, s108, s109, s110, s111, s112, s113, s114, s115, s116, s117, s118, s119, s120, s121, s122, s123, s124, s125, s126, s127, s128, s129, s130, s131, s132, s133, s134, s135, s136, s137, s138, s139, s140, s141, s142, s143, s144, s145, s146, s147, s148, s149, s150, s151, s152, s153, s154, s155, s156, s157, s158, s159, s160, s161, s162, s163, s164, s165, s166, s167, s168, s169, s170, s171, s172, s173, s174, s175, s176, s177, s178, s179, s180, s181, s182, s183, s184, s185, s186, s187, s188, s189, s190, s191, s192, s193, s194, s195, s196, s197, s198, s199, s200, s201, s202, s203, s204, s205, s206, s207, s208, s209, s210, s211, s212, s213, s214, s215, s216, s217, s218, s219, s220, s221, s222, s223, s224, s225, s226, s227, s228, s229, s230, s231, s232, s233, s234, s235, s236, s237, s238, s239, s240, s241, s242, s243, s244, s245, s246, s247, s248, s249, s250, s251, s252, s253, s254, s255, s256, s257, s258, s259, s260, s261, s262, s263, s264, s265, s266, s267, s268, s269, s270, s271, s272, s273, s274, s275, s276, s277, s278, s279, s280, s281, s282, s283, s284, s285, s286, v32, .int .i64 (m : Int), .int .i64 0, s290, s291, s292, s293, s294, s295, s296, s297, s298, s299, s300, s301, s302, s303, s304, s305, s306, s307, s308, s309, s310, s311, s312, s313, s314, s315, s316, s317, s318, s319, s320, s321, s322, s323, s324, s325, s326, s327, s328, s329, s330, s331, s332, s333, s334, s335, s336, s337, s338, s339, s340, s341, s342, s343, s344, s345, s346, s347, s348, s349, s350, s351, s352, s353, s354, s355, s356, s357, s358, s359, s360, s361, s362, s363, s364, s365, s366, s367, s368, s369, s370, s371, s372, s373, s374, s375, s376, s377, s378, s379, s380, s381, s382, s383, s384, s385, s386, s387, s388, s389, s390, s391, s392, s393, s394, s395, s396, s397, s398, s399, s400, s401, s402, s403, s404, s405, s406, s407], []⟩ wr := by
  have hlen : outs.length = m := by have := h24.1; simpa using this
  by_cases hm0 : m = 0
  · subst hm0
    conv => arg 2; whnf
    conv => arg 4; dsimp only
    go_loopw [289] (fun i wx => i = .int .i64 0 ∧ wx = wr) (fun _ _ => 0)
    case atStart => exact ⟨rfl, rfl⟩
    case round =>
      obtain ⟨rfl, rfl⟩ := hrel
      go_wp2
      exact ⟨0, rfl⟩
  · obtain ⟨g1, cap1, rfl⟩ : ∃ g cap, v24 = .slice (some ⟨g, 0, none⟩) m cap := by
      rcases h24.2 with ⟨_, e⟩ | ⟨g, cap, cur, e, _⟩
      · exact absurd e hm0
      · exact ⟨g, cap, e⟩
    obtain ⟨g2, cap2, rfl⟩ : ∃ g cap, v32 = .slice (some ⟨g, 0, none⟩) m cap := by
      rcases h32.2 with ⟨_, e⟩ | ⟨g, cap, cur, e, _⟩
      · exact absurd e hm0
      · exact ⟨g, cap, e⟩
    have H24 := hid h24
    have H32 := hid h32
    clear h24 h32
    conv => arg 2; whnf
    conv => arg 4; dsimp only
    go_loopw [289] (fun i wx => ∃ k d : Nat, k ≤ m ∧ i = .int .i64 k ∧ wx = wr.drewN d) (fun i _ => m - (intOf i).toNat)
    case atStart => exact ⟨0, 0, Nat.zero_le _, rfl, rfl⟩
    case round =>
      obtain ⟨k, d, hk, rfl, rfl⟩ := hrel
      by_cases hlt : k < m
      · have hkl : k < outs.length := by omega
        obtain ⟨t, et⟩ : ∃ t, t = outs[k] := ⟨_, rfl⟩
        have ht8 : t < 8 := by rw [et]; exact ho8 _ (List.getElem_mem hkl)
        have x1 := own_get H24.out k hlt (u := .pointer (some ⟨gb + 2 + t, 0, none⟩)) (by simp [List.getElem?_map, hkl, et])
        have x2 := own_get H32.out k hlt (u := .int .i64 (t : Int)) (by simp [List.getElem?_map, hkl, et])
        have x3 := hpool t ht8
        have hq := fun W => neq47 (wr.drewN W) (gb + 2 + t) (gb + 2 + t) (hblk t ht8) (hblk t ht8)
        simp only [decide_true, Bool.not_true] at hq
        have i0 : (0 : Int) ≤ (k : Int) := by omega
        have i1 : (k : Int) < (m : Int) := by omega
        have i2 : (0 : Int) ≤ (t : Int) := by omega
        have i3 : (t : Int) < 8 := by omega
        clear et
        go_wp2
        go_quiet (fail)
        go_wp2
        go_roundw
        case rel => exact ⟨k + 1, _, by omega, by go_num, rfl⟩
        case measure => simp [intOf]; omega
      · have : m = k := by omega
        subst this
        go_wp2
        exact ⟨d, rfl⟩

end Go.Proofs.Ybulkecuo.B
