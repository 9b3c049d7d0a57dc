import Derived.Test.YbulkecxuCFing
namespace Go.Proofs.Ybulkecxu.C
set_option linter.unusedVariables false
set_option linter.unusedSimpArgs false
open Go.RowKit Go.Deep
attribute [local go_sem ↓] toLd28 toSt28 toNq28

/-- What the law waits for at index i. -/
def want (F S : Nat → List Value) (len : Nat) (i : Nat) : List Value := if i < 160 then (if i < len then F i else zeroM) else S (i - 160)

theorem new_zero (wr : World) : (wr.alloc (.cells #[.int .u8 0, .int .u8 0, .int .u8 0, .int .u8 0, .int .u8 0, .int .u8 0, .int .u8 0, .int .u8 0, .int .u8 0, .int .u8 0, .int .u8 0, .int .u8 0, .int .u8 0, .int .u8 0, .int .u8 0, .int .u8 0, .int .u8 0, .int .u8 0, .int .u8 0, .int .u8 0, .string ⟨#[]⟩] 28)).rangeAt wr.heap.size 0 zeroM := by
  have hb := blk_alloc_new wr (.cells #[.int .u8 0, .int .u8 0, .int .u8 0, .int .u8 0, .int .u8 0, .int .u8 0, .int .u8 0, .int .u8 0, .int .u8 0, .int .u8 0, .int .u8 0, .int .u8 0, .int .u8 0, .int .u8 0, .int .u8 0, .int .u8 0, .int .u8 0, .int .u8 0, .int .u8 0, .int .u8 0, .string ⟨#[]⟩] 28)
  exact len_block (m := zeroM) hb

theorem new_mem2 (wr : World) (z : Array Value) (hz : z.size = 21) (m : List Value) (hm : Mem m) :
    ∃ W2, (st28 (.pointer (some ⟨wr.heap.size, 0, none⟩)) (.agg m.toArray)).run Yba.prog (wr.alloc (.cells z 28)) = .ok () W2 ∧ W2.rangeAt wr.heap.size 0 m ∧ Below wr.heap.size wr W2 := by
  have ht : (wr.alloc (.cells z 28)).there wr.heap.size 0 21 := fun j hj => by
    have hb := blk_alloc_new wr (.cells z 28)
    exact ⟨by simp only [World.cell?, hb, Nat.zero_add]; simp [hz, hj], by simp only [World.frozen?, hb]; simp⟩
  exact ⟨(wr.alloc (.cells z 28)).setCells wr.heap.size 0 m, store_mem _ _ 0 m hm ht, World.rangeAt_setCells_same _ _ _ _ (by rw [hm.len]; exact ht), below_setCells ((Below.refl _ _).alloc (Nat.le_refl _) _) (Nat.le_refl _) _ _⟩

set_option maxRecDepth 1000000 in
set_option maxHeartbeats 4000000 in
/-- 'for i := 0; i < exp; i++ ..': each member that was got is the one that the law waits for. -/
theorem loop2 (w : World) (g k len m c c9 gc : Nat) (a a9 ga : Option Addr) (F S : Nat → List Value) (hg : w.cell? ⟨g, 0, none⟩ = some (.slice ga k gc)) (hgot : Came w ga k (want F S len)) (hfs : Came w a len F) (hcp : Came w a9 m S) (hk : k ≤ 160 + m) (hm : m ≤ 1048576)
    (Q : Exit → Act → World → Prop) (s1 s2 s3 s4 s5 s6 s7 s8 s10 s11 s12 s14 s15 s16 s17 s20 s21 s22 s23 s24 s25 s26 s27 s28 s29 s30 s31 s32 s33 s34 s35 s36 s37 s38 s39 s40 s41 s42 s43 s44 s45 s46 s47 s48 s49 s50 s51 s52 s53 s54 s55 s56 s57 s58 s59 s60 s61 s62 s63 s64 s65 s66 s67 s68 s69 s70 s71 s72 s73 s74 s75 s76 s77 s78 s79 s80 s81 s82 s83 s84 s85 s86 s87 s88 s89 s90 s91 s92 s93 s94 s95 s96 s97 s98 s99 s100 s101 s102 s103 s104 s105 s106 s107 s108 s109 s110 s111 s112 s113 s114 s115 s116 s117 : Value)
    (hQ : ∀ (v8 v19 v20 v83 v84 v85 v86 v87 v88 v89 v90 v91 v92 v93 v94 v95 v96 v97 v98 v99 v100 v101 v102 v103 v104 v105 v106 v107 v108 : Value) (w1 : World), Below w.heap.size w w1 → Q .normal ⟨#[.slice a len c, s1, s2, s3, s4, s5, s6, s7, v8, .slice a9 m c9, s10, s11, s12, .pointer (some ⟨g, 0, none⟩), s14, s15, s16, s17, .int .i64 (k : Int), v19, v20, s21, s22, s23, s24, s25, s26, s27, s28, s29, s30, s31, s32, s33, s34, s35, s36, s37, s38, s39, s40, s41, s42, s43, s44, s45, s46, s47, s48, s49, s50, s51, s52, s53, s54, s55, s56, s57, s58, s59, s60, s61, s62, s63, s64, s65, s66, s67, s68, s69, s70, s71, s72, s73, s74, s75, s76, s77, s78, s79, s80, s81, s82, v83, v84, v85, v86, v87, v88, v89, v90, v91, v92, v93, v94, v95, v96, v97, v98, v99, v100, v101, v102, v103, v104, v105, v106, v107, v108, s109, s110, s111, s112, s113, s114, s115, s116, s117], []⟩ w1) :
    Code.wp Yba.prog ((Yba.f3.body.bind (findLoop 23)).getD .skip) (Exit.inBlock 2 Q) ⟨#[.slice a len c, s1, s2, s3, s4, s5, s6, s7, s8, .slice a9 m c9, s10, s11, s12, .pointer (some ⟨g, 0, none⟩), s14, s15, s16, s17, .int .i64 (k : Int), .int .i64 0, s20, s21, s22, s23, s24, s25, s26, s27, s28, s29, s30, s31, s32, s33, s34, s35, s36, s37, s38, s39, s40, s41, s42, s43, s44, s45, s46, s47, s48, s49, s50, s51, s52, s53, s54, s55, s56, s57, s58, s59, s60, s61, s62, s63, s64, s65, s66, s67, s68, s69, s70, s71, s72, s73, s74, s75, s76, s77, s78, s79, s80, s81, s82, s83, s84, s85, s86, s87, s88, s89, s90, s91, s92, s93, s94, s95, s96, s97, s98, s99, s100, s101, s102, s103, s104, s105, s106, s107, s108, s109, s110, s111, s112, s113, s114, s115, s116, s117], []⟩ w := by
  conv => arg 2; whnf
  conv => arg 4; dsimp only
  go_loopw [19] (fun i wr => ∃ j : Nat, j ≤ k ∧ i = .int .i64 j ∧ Below w.heap.size w wr) (fun i _ => k - (intOf i).toNat)
  case atStart => exact ⟨0, Nat.zero_le _, rfl, Below.refl _ _⟩
  case round =>
    obtain ⟨i, hi, rfl, hB⟩ := hrel
    by_cases hlt : i < k
    · obtain ⟨hmw, gb, go, rfl, hgr⟩ := hgot i hlt
      have i0 : (0 : Int) ≤ (i : Int) := by omega
      have i1 : (i : Int) < (k : Int) := by omega
      have lg := lt_of_cell hg
      have lgr : ∀ q u, (want F S len i)[q]? = some u → gb < w.heap.size := fun q u hu => lt_of_cell (hgr i hlt q u hu)
      -- behind the law's choice of w: one walk
      have hcmp : ∀ W2 : World, Below w.heap.size w W2 → W2.rangeAt wr.heap.size 0 (want F S len i) →
          W2.cell? ⟨g, 0, none⟩ = some (.slice (some ⟨gb, go, none⟩) k gc) ∧ (∀ d, (ld28 (.pointer (some ⟨gb, go + i * 21, none⟩))).run Yba.prog (W2.drewN d) = .ok (.agg (want F S len i).toArray) (W2.drewN d)) ∧ (∀ d, (ld28 (.pointer (some ⟨wr.heap.size, 0, none⟩))).run Yba.prog (W2.drewN d) = .ok (.agg (want F S len i).toArray) (W2.drewN d)) := fun W2 hB2 hr2 =>
        ⟨cell_keep hB2 lg hg, fun d => load_mem _ _ _ _ hmw (fun q u hu => cell_keep hB2 (lgr q u hu) (hgr i hlt q u hu)), fun d => load_mem _ _ _ _ hmw hr2⟩
      have hq := fun (W : World) (d : Nat) => nq_mem (want F S len i) hmw (W.drewN d)
      have HC := hid hcmp
      have HQQ := hid hq
      have HB := hid hB
      have HW := hid hmw
      have HFS := hid hfs
      have HCP := hid hcp
      have HWT := hid (show want F S len i = if i < 160 then (if i < len then F i else zeroM) else S (i - 160) from rfl)
      clear hcmp hq hB hmw hgot hgr lgr hg hfs hcp
      obtain ⟨X, hX⟩ : ∃ X, X = want F S len i := ⟨_, rfl⟩
      rw [← hX] at HC HQQ HW HWT
      clear hX
      by_cases h1 : i < 160
      · have t1 : decide ((i : Int) < 160) = true := by simp; omega
        have i2 : (i : Int) < 160 := by omega
        by_cases h2 : i < len
        · obtain ⟨hmF, b, o, rfl, hr⟩ := HFS.out i h2
          have e1 : F i = X := by rw [HWT.out, if_pos h1, if_pos h2]
          rw [e1] at hmF
          have hB1 : Below w.heap.size w (wr.alloc (.cells #[.int .u8 0, .int .u8 0, .int .u8 0, .int .u8 0, .int .u8 0, .int .u8 0, .int .u8 0, .int .u8 0, .int .u8 0, .int .u8 0, .int .u8 0, .int .u8 0, .int .u8 0, .int .u8 0, .int .u8 0, .int .u8 0, .int .u8 0, .int .u8 0, .int .u8 0, .int .u8 0, .string ⟨#[]⟩] 28)) := HB.out.alloc HB.out.size _
          have q1 := load_mem (wr.alloc (.cells #[.int .u8 0, .int .u8 0, .int .u8 0, .int .u8 0, .int .u8 0, .int .u8 0, .int .u8 0, .int .u8 0, .int .u8 0, .int .u8 0, .int .u8 0, .int .u8 0, .int .u8 0, .int .u8 0, .int .u8 0, .int .u8 0, .int .u8 0, .int .u8 0, .int .u8 0, .int .u8 0, .string ⟨#[]⟩] 28)) b (o + i * 21) X hmF (fun q u hu => cell_keep hB1 (lt_of_cell (hr i h2 q u (by rw [e1]; exact hu))) (hr i h2 q u (by rw [e1]; exact hu)))
          obtain ⟨W2, hst, hr2, hB2⟩ := new_mem2 wr #[.int .u8 0, .int .u8 0, .int .u8 0, .int .u8 0, .int .u8 0, .int .u8 0, .int .u8 0, .int .u8 0, .int .u8 0, .int .u8 0, .int .u8 0, .int .u8 0, .int .u8 0, .int .u8 0, .int .u8 0, .int .u8 0, .int .u8 0, .int .u8 0, .int .u8 0, .int .u8 0, .string ⟨#[]⟩] rfl X hmF
          have HB2 : Hid (Below w.heap.size w W2) := hid (HB.out.trans (hB2.mono HB.out.size))
          obtain ⟨g1, d1, d2⟩ := HC.out W2 HB2.out hr2
          have d3 := HQQ.out W2
          clear hr2 hB2 HC HQQ HB HW HFS HCP HWT
          clear hmF hr hB1 e1
          go_wp2_with fail
          go_quiet (fail)
          obtain ⟨W3, hW3⟩ : ∃ W3, W3 = W2.drewN nq := ⟨_, rfl⟩
          rw [← hW3]
          have HB3 : Hid (Below w.heap.size w W3) := hid (by rw [hW3]; exact below_drewN HB2.out nq)
          clear hW3
          go_wp2
          go_roundw
          case rel => exact ⟨i + 1, by omega, by go_num, HB3.out⟩
          case measure => simp [intOf]; omega
        · have t2 : decide ((i : Int) < (len : Int)) = false := by simp; omega
          obtain ⟨W2, hW2⟩ : ∃ W2, W2 = wr.alloc (.cells #[.int .u8 0, .int .u8 0, .int .u8 0, .int .u8 0, .int .u8 0, .int .u8 0, .int .u8 0, .int .u8 0, .int .u8 0, .int .u8 0, .int .u8 0, .int .u8 0, .int .u8 0, .int .u8 0, .int .u8 0, .int .u8 0, .int .u8 0, .int .u8 0, .int .u8 0, .int .u8 0, .string ⟨#[]⟩] 28) := ⟨_, rfl⟩
          have hB2 : Below wr.heap.size wr W2 := by rw [hW2]; exact (Below.refl _ _).alloc (Nat.le_refl _) _
          have hr2 : W2.rangeAt wr.heap.size 0 X := by
            rw [hW2, HWT.out, if_pos h1, if_neg h2]
            exact new_zero wr
          have HWE := hid hW2
          clear hW2
          have HB2 : Hid (Below w.heap.size w W2) := hid (HB.out.trans (hB2.mono HB.out.size))
          obtain ⟨g1, d1, d2⟩ := HC.out W2 HB2.out hr2
          have d3 := HQQ.out W2
          clear hr2 hB2 HC HQQ HB HW HFS HCP HWT
          go_wp2_with fail
          rw [← HWE.out]
          clear HWE
          go_quiet (fail)
          obtain ⟨W3, hW3⟩ : ∃ W3, W3 = W2.drewN nq := ⟨_, rfl⟩
          rw [← hW3]
          have HB3 : Hid (Below w.heap.size w W3) := hid (by rw [hW3]; exact below_drewN HB2.out nq)
          clear hW3
          go_wp2
          go_roundw
          case rel => exact ⟨i + 1, by omega, by go_num, HB3.out⟩
          case measure => simp [intOf]; omega
      · obtain ⟨hmF, b, o, rfl, hr⟩ := HCP.out (i - 160) (by omega)
        have t1 : decide ((i : Int) < 160) = false := by simp; omega
        have e1 : S (i - 160) = X := by rw [HWT.out, if_neg h1]
        rw [e1] at hmF
        have hB1 : Below w.heap.size w (wr.alloc (.cells #[.int .u8 0, .int .u8 0, .int .u8 0, .int .u8 0, .int .u8 0, .int .u8 0, .int .u8 0, .int .u8 0, .int .u8 0, .int .u8 0, .int .u8 0, .int .u8 0, .int .u8 0, .int .u8 0, .int .u8 0, .int .u8 0, .int .u8 0, .int .u8 0, .int .u8 0, .int .u8 0, .string ⟨#[]⟩] 28)) := HB.out.alloc HB.out.size _
        have hri := hr (i - 160) (by omega)
        rw [e1] at hri
        have q1 := load_mem (wr.alloc (.cells #[.int .u8 0, .int .u8 0, .int .u8 0, .int .u8 0, .int .u8 0, .int .u8 0, .int .u8 0, .int .u8 0, .int .u8 0, .int .u8 0, .int .u8 0, .int .u8 0, .int .u8 0, .int .u8 0, .int .u8 0, .int .u8 0, .int .u8 0, .int .u8 0, .int .u8 0, .int .u8 0, .string ⟨#[]⟩] 28)) b (o + (i - 160) * 21) X hmF (fun q u hu => cell_keep hB1 (lt_of_cell (hri q u hu)) (hri q u hu))
        have j0 : (0 : Int) ≤ (i : Int) - 160 := by omega
        have j1 : (i : Int) - 160 < (m : Int) := by omega
        have j2 : ((i : Int) - 160).toNat = i - 160 := by omega
        have j3 : IntKind.i64.wrap ((i : Int) - 160) = (i : Int) - 160 := by rw [IntKind.wrap_i64]; omega
        obtain ⟨W2, hst, hr2, hB2⟩ := new_mem2 wr #[.int .u8 0, .int .u8 0, .int .u8 0, .int .u8 0, .int .u8 0, .int .u8 0, .int .u8 0, .int .u8 0, .int .u8 0, .int .u8 0, .int .u8 0, .int .u8 0, .int .u8 0, .int .u8 0, .int .u8 0, .int .u8 0, .int .u8 0, .int .u8 0, .int .u8 0, .int .u8 0, .string ⟨#[]⟩] rfl X hmF
        have HB2 : Hid (Below w.heap.size w W2) := hid (HB.out.trans (hB2.mono HB.out.size))
        obtain ⟨g1, d1, d2⟩ := HC.out W2 HB2.out hr2
        have d3 := HQQ.out W2
        clear hr2 hB2 HC HQQ HB HW HFS HCP HWT
        clear hmF hr hB1 e1 hri
        go_wp2_with fail
        go_quiet (fail)
        obtain ⟨W3, hW3⟩ : ∃ W3, W3 = W2.drewN nq := ⟨_, rfl⟩
        rw [← hW3]
        have HB3 : Hid (Below w.heap.size w W3) := hid (by rw [hW3]; exact below_drewN HB2.out nq)
        clear hW3
        go_wp2
        go_roundw
        case rel => exact ⟨i + 1, by omega, by go_num, HB3.out⟩
        case measure => simp [intOf]; omega
    · have e : k = i := by omega
      subst e
      go_wp2
      exact hB

end Go.Proofs.Ybulkecxu.C
