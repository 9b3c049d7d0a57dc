import Derived.Test.YbulkectmFmtAFire
namespace Go.Proofs.YbulkectmFmt.A
set_option linter.unusedVariables false
set_option linter.unusedSimpArgs false
open Go.RowKit Go.Deep

/-- The firing before any node fires. -/
structure Sd (w wr : World) (fv fp SD RK n : Nat) (seed : Nat → Bool) : Prop where
  below : Below w.heap.size w wr
  hfv : wr.heap[fv]? = some (.cells #[.pointer (some ⟨fp, 0, none⟩)] 66 (0, 0))
  hfp : wr.heap[fp]? = some (.cells #[.float .f64 4602678819172646912, .slice (some ⟨SD, 0, none⟩) n n, .slice (some ⟨RK, 0, none⟩) n n] 70 (0, 0))
  sd : wr.rowIs SD 4 n (fun i => .bool (seed i))
  rk : wr.rowIs RK 3 n (fun _ => .int .i64 0)
  lo : w.heap.size ≤ fv ∧ w.heap.size ≤ fp ∧ w.heap.size ≤ SD ∧ w.heap.size ≤ RK

theorem Sd.step {w wr : World} {fv fp SD RK n : Nat} {seed : Nat → Bool} (h : Sd w wr fv fp SD RK n seed) (x : Nat) : Sd w (wr.setCell ⟨SD, x, none⟩ (.bool true)) fv fp SD RK n (upd seed x true) := by
  have n1 : fv ≠ SD := fun e => by have h1 := h.hfv; obtain ⟨c, h2, _⟩ := h.sd; rw [e, h2] at h1; cases h1
  have n2 : fp ≠ SD := fun e => by have h1 := h.hfp; obtain ⟨c, h2, _⟩ := h.sd; rw [e, h2] at h1; cases h1
  have n3 : RK ≠ SD := fun e => by obtain ⟨c1, h1, _⟩ := h.rk; obtain ⟨c, h2, _⟩ := h.sd; rw [e, h2] at h1; cases h1
  refine ⟨h.below.setCell (by simpa using h.lo.2.2.1) _, ?_, ?_, (h.sd.set x _).congr fun i _ => ?_, h.rk.setOther (by simpa using n3) _, h.lo⟩
  · rw [blk_setCell_other _ _ _ _ (by simpa using n1)]; exact h.hfv
  · rw [blk_setCell_other _ _ _ _ (by simpa using n2)]; exact h.hfp
  · by_cases e : i = x
    · subst e; simp [upd]
    · simp [upd, e]

/-- The nodes of a list. -/
def inB (l : List Nat) (i : Nat) : Bool := decide (i ∈ l)
theorem inB_take (l : List Nat) (k : Nat) (h : k < l.length) : inB (l.take (k + 1)) = upd (inB (l.take k)) l[k] true := by
  funext i
  unfold inB upd
  have hm : i ∈ l.take (k + 1) ↔ i ∈ l.take k ∨ i = l[k] := by
    rw [List.take_succ_eq_append_getElem h, List.mem_append, List.mem_singleton]
  by_cases e : i = l[k]
  · rw [if_pos e]
    exact decide_eq_true (hm.2 (.inr e))
  · rw [if_neg e]
    congr 1
    exact propext ⟨fun h => (hm.1 h).resolve_right e, fun h => hm.2 (.inl h)⟩
theorem inB_nil (l : List Nat) : inB (l.take 0) = fun _ => false := by
  funext i
  simp [inB]

set_option maxRecDepth 1000000 in
set_option maxHeartbeats 4000000 in
/-- 'for _, s := range seeds { f.seed[s] = true }'. -/
theorem propLoop1 (w wr : World) (fv fp SD RK n : Nat) (h0 : Sd w wr fv fp SD RK n (fun _ => false)) (a : Option Addr) (c : Nat) (ls : List Nat) (hrow : ∀ wx, Below w.heap.size w wx → ∀ j (h : j < ls.length), ∃ b o, a = some ⟨b, o, none⟩ ∧ wx.cell? ⟨b, o + j, none⟩ = some (.int .i64 ((ls[j] : Nat) : Int))) (hlt : ∀ x ∈ ls, x < n) (hlen : ls.length ≤ 10000)
    (Q : Exit → Act → World → Prop) (s0 s1 s2 s3 s4 s5 s6 s8 s9 s10 s11 s12 s13 s14 s15 s16 s17 s18 s19 s20 s21 s22 s23 s24 s25 s26 s27 s28 s29 s30 s31 s32 s36 s37 s38 s39 s40 s41 s42 s43 s44 s45 s46 s47 s48 s49 s50 s51 s52 s53 s54 s55 s56 s57 s58 s59 s60 s61 s62 s63 s64 s65 s66 s67 s68 s69 s70 s71 s72 s73 s74 s75 s76 s77 s78 s79 s80 s81 s82 s83 s84 s85 s86 s87 s88 s89 s90 s91 s92 s93 s94 s95 s96 s97 s98 s99 s100 s101 s102 s103 s104 s105 s106 s107 s108 s109 s110 s111 s112 s113 s114 s115 s116 s117 s118 s119 s120 s121 s122 s123 s124 s125 s126 s127 s128 s129 s130 s131 s132 s133 s134 s135 s136 s137 s138 s139 s140 s141 s142 s143 s144 s145 s146 s147 s148 s149 : Value)
    (hQ : ∀ (v9 v35 v36 v37 v38 v39 v40 v41 v42 v43 v44 v45 : Value) (w1 : World), Sd w w1 fv fp SD RK n (inB ls) → Q .normal ⟨#[s0, s1, s2, s3, s4, s5, s6, .pointer (some ⟨fv, 0, none⟩), s8, v9, s10, s11, s12, s13, s14, s15, s16, s17, s18, s19, s20, s21, s22, s23, s24, s25, s26, s27, s28, s29, s30, s31, s32, .slice a ls.length c, .int .i64 (ls.length : Int), v35, v36, v37, v38, v39, v40, v41, v42, v43, v44, v45, s46, s47, s48, s49, s50, s51, s52, s53, s54, s55, s56, s57, s58, s59, s60, s61, s62, s63, s64, s65, s66, s67, s68, s69, s70, s71, s72, s73, s74, s75, s76, s77, s78, s79, s80, s81, s82, s83, s84, s85, s86, s87, s88, s89, s90, s91, s92, s93, s94, s95, s96, s97, s98, s99, s100, s101, s102, s103, s104, s105, s106, s107, s108, s109, s110, s111, s112, s113, s114, s115, s116, s117, s118, s119, s120, s121, s122, s123, s124, s125, s126, s127, s128, s129, s130, s131, s132, s133, s134, s135, s136, s137, s138, s139, s140, s141, s142, s143, s144, s145, s146, s147, s148, s149], []⟩ w1) :
    Code.wp Ybaf.prog ((Ybaf.f12.body.bind (findLoop 3)).getD .skip) (Exit.inBlock 0 Q) ⟨#[s0, s1, s2, s3, s4, s5, s6, .pointer (some ⟨fv, 0, none⟩), s8, s9, s10, s11, s12, s13, s14, s15, s16, s17, s18, s19, s20, s21, s22, s23, s24, s25, s26, s27, s28, s29, s30, s31, s32, .slice a ls.length c, .int .i64 (ls.length : Int), .int .i64 0, s36, s37, s38, s39, s40, s41, s42, s43, s44, s45, s46, s47, s48, s49, s50, s51, s52, s53, s54, s55, s56, s57, s58, s59, s60, s61, s62, s63, s64, s65, s66, s67, s68, s69, s70, s71, s72, s73, s74, s75, s76, s77, s78, s79, s80, s81, s82, s83, s84, s85, s86, s87, s88, s89, s90, s91, s92, s93, s94, s95, s96, s97, s98, s99, s100, s101, s102, s103, s104, s105, s106, s107, s108, s109, s110, s111, s112, s113, s114, s115, s116, s117, s118, s119, s120, s121, s122, s123, s124, s125, s126, s127, s128, s129, s130, s131, s132, s133, s134, s135, s136, s137, s138, s139, s140, s141, s142, s143, s144, s145, s146, s147, s148, s149], []⟩ wr := by
  conv => arg 2; whnf
  conv => arg 4; dsimp only
  go_loopw [35] (fun i wr => ∃ k : Nat, k ≤ ls.length ∧ i = .int .i64 k ∧ Sd w wr fv fp SD RK n (inB (ls.take k))) (fun i _ => ls.length - (intOf i).toNat)
  case atStart => exact ⟨0, Nat.zero_le _, rfl, by rw [inB_nil]; exact h0⟩
  case round =>
    clear h0
    obtain ⟨k, hk, rfl, hS⟩ := hrel
    by_cases hl : k < ls.length
    · obtain ⟨b, o, rfl, c0⟩ := hrow wr hS.below k hl
      obtain ⟨x, hx⟩ : ∃ x, x = ls[k] := ⟨_, rfl⟩
      have hxn : x < n := by rw [hx]; exact hlt _ (List.getElem_mem hl)
      rw [← hx] at c0
      have c1 : wr.cell? ⟨fv, 0, none⟩ = some (.pointer (some ⟨fp, 0, none⟩)) := by simp [World.cell?, hS.hfv]
      have c2 : wr.cell? ⟨fp, 1, none⟩ = some (.slice (some ⟨SD, 0, none⟩) n n) := by simp [World.cell?, hS.hfp]
      have c3 := hS.sd.cell hxn
      have c4 := hS.sd.frozen x
      have HS := hid (hS.step x)
      have HE := hid (inB_take ls k hl)
      rw [← hx] at HE
      have i0 : (0 : Int) ≤ (k : Int) := by omega
      have i1 : (k : Int) < (ls.length : Int) := by omega
      have x0 : (0 : Int) ≤ (x : Int) := by omega
      have x1 : (x : Int) < (n : Int) := by omega
      clear hS hx hrow hlt
      go_wp2
      go_roundw
      case rel => exact ⟨k + 1, by omega, by go_num, by rw [HE.out]; exact HS.out⟩
      case measure => simp [intOf]; omega
    · have e : k = ls.length := by omega
      subst e
      rw [List.take_length] at hS
      go_wp2
      first | exact hS | exact hQ _ _ _ _ _ _ _ _ _ _ _ _ wr hS

/-- The ranks as far as the second loop has come. -/
def rk2 (seed : Nat → Bool) (k i : Nat) : Int := if i < k then (stK seed k).rank i else 0
theorem stK_far (seed : Nat → Bool) : ∀ k v, k ≤ v → (stK seed k).rank v = -1
  | 0, _, _ => rfl
  | k + 1, v, h => by
    have ih := stK_far seed k v (by omega)
    show (seedS seed (stK seed k) k).rank v = -1
    unfold seedS
    split
    · show upd _ _ _ v = -1
      rw [upd_other _ _ (by omega)]; exact ih
    · exact ih
theorem rk2_step (seed : Nat → Bool) (k : Nat) : rk2 seed (k + 1) = if seed k = true then upd (upd (rk2 seed k) k (-1)) k ((stK seed k).order.length : Int) else upd (rk2 seed k) k (-1) := by
  have hs : stK seed (k + 1) = seedS seed (stK seed k) k := rfl
  funext i
  unfold rk2
  rw [hs]
  unfold seedS
  by_cases hsd : seed k = true
  · rw [if_pos hsd, if_pos hsd]
    by_cases e : i = k
    · subst e
      rw [if_pos (by omega), upd_same]
      show upd _ _ _ i = _
      rw [upd_same]
    · rw [upd_other _ _ e, upd_other _ _ e]
      by_cases hi : i < k
      · rw [if_pos (by omega), if_pos hi]
        show upd _ _ _ i = _
        rw [upd_other _ _ e]
      · rw [if_neg (by omega), if_neg hi]
  · rw [if_neg hsd, if_neg hsd]
    by_cases e : i = k
    · subst e
      rw [if_pos (by omega), upd_same]
      exact stK_far seed i i (Nat.le_refl _)
    · rw [upd_other _ _ e]
      by_cases hi : i < k
      · rw [if_pos (by omega), if_pos hi]
      · rw [if_neg (by omega), if_neg hi]

theorem stK_len (seed : Nat → Bool) : ∀ k, (stK seed k).order.length ≤ k
  | 0 => Nat.le_refl _
  | k + 1 => by
    have ih := stK_len seed k
    show (seedS seed (stK seed k) k).order.length ≤ _
    unfold seedS
    split
    · show (_ ++ [k]).length ≤ _
      rw [List.length_append]
      simp
      omega
    · omega

set_option maxRecDepth 1000000 in
set_option maxHeartbeats 4000000 in
/-- 'for v := range f.rank { f.rank[v] = -1; if f.seed[v] { fire(v) } }'. -/
theorem propLoop2 (w wr : World) (C : PC) (seed : Nat → Bool) (hn : C.n ≤ 300) (v0 : Value) (h0 : Fst w wr C seed (fun _ => 0) [] v0)
    (Q : Exit → Act → World → Prop) (s0 s1 s2 s3 s4 s5 s6 s8 s9 s10 s12 s13 s14 s15 s16 s17 s18 s19 s20 s21 s22 s23 s24 s25 s26 s27 s28 s29 s30 s31 s32 s33 s34 s35 s36 s37 s38 s39 s40 s41 s42 s43 s44 s45 s46 s47 s48 s49 s50 s53 s54 s55 s56 s57 s58 s59 s60 s61 s62 s63 s64 s65 s66 s67 s68 s69 s70 s71 s72 s73 s74 s75 s76 s77 s78 s79 s80 s81 s82 s83 s84 s85 s86 s87 s88 s89 s90 s91 s92 s93 s94 s95 s96 s97 s98 s99 s100 s101 s102 s103 s104 s105 s106 s107 s108 s109 s110 s111 s112 s113 s114 s115 s116 s117 s118 s119 s120 s121 s122 s123 s124 s125 s126 s127 s128 s129 s130 s131 s132 s133 s134 s135 s136 s137 s138 s139 s140 s141 s142 s143 s144 s145 s146 s147 s148 s149 : Value)
    (hQ : ∀ (v12 v52 v53 v54 v55 v56 v57 v58 v59 v60 v61 v62 v63 v64 v65 v66 v67 v68 v69 v70 v71 : Value) (w1 : World) (v : Value), Fst w w1 C seed (stK seed C.n).rank (stK seed C.n).order v → Q .normal ⟨#[s0, s1, s2, s3, s4, s5, s6, .pointer (some ⟨C.fv, 0, none⟩), s8, s9, s10, .func (.func 17) #[] #[.pointer (some ⟨C.ov, 0, none⟩), .pointer (some ⟨C.fv, 0, none⟩)], v12, s13, s14, s15, s16, s17, s18, s19, s20, s21, s22, s23, s24, s25, s26, s27, s28, s29, s30, s31, s32, s33, s34, s35, s36, s37, s38, s39, s40, s41, s42, s43, s44, s45, s46, s47, s48, s49, s50, .int .i64 (C.n : Int), v52, v53, v54, v55, v56, v57, v58, v59, v60, v61, v62, v63, v64, v65, v66, v67, v68, v69, v70, v71, s72, s73, s74, s75, s76, s77, s78, s79, s80, s81, s82, s83, s84, s85, s86, s87, s88, s89, s90, s91, s92, s93, s94, s95, s96, s97, s98, s99, s100, s101, s102, s103, s104, s105, s106, s107, s108, s109, s110, s111, s112, s113, s114, s115, s116, s117, s118, s119, s120, s121, s122, s123, s124, s125, s126, s127, s128, s129, s130, s131, s132, s133, s134, s135, s136, s137, s138, s139, s140, s141, s142, s143, s144, s145, s146, s147, s148, s149], []⟩ w1) :
    Code.wp Ybaf.prog ((Ybaf.f12.body.bind (findLoop 10)).getD .skip) (Exit.inBlock 2 Q) ⟨#[s0, s1, s2, s3, s4, s5, s6, .pointer (some ⟨C.fv, 0, none⟩), s8, s9, s10, .func (.func 17) #[] #[.pointer (some ⟨C.ov, 0, none⟩), .pointer (some ⟨C.fv, 0, none⟩)], s12, s13, s14, s15, s16, s17, s18, s19, s20, s21, s22, s23, s24, s25, s26, s27, s28, s29, s30, s31, s32, s33, s34, s35, s36, s37, s38, s39, s40, s41, s42, s43, s44, s45, s46, s47, s48, s49, s50, .int .i64 (C.n : Int), .int .i64 0, s53, s54, s55, s56, s57, s58, s59, s60, s61, s62, s63, s64, s65, s66, s67, s68, s69, s70, s71, s72, s73, s74, s75, s76, s77, s78, s79, s80, s81, s82, s83, s84, s85, s86, s87, s88, s89, s90, s91, s92, s93, s94, s95, s96, s97, s98, s99, s100, s101, s102, s103, s104, s105, s106, s107, s108, s109, s110, s111, s112, s113, s114, s115, s116, s117, s118, s119, s120, s121, s122, s123, s124, s125, s126, s127, s128, s129, s130, s131, s132, s133, s134, s135, s136, s137, s138, s139, s140, s141, s142, s143, s144, s145, s146, s147, s148, s149], []⟩ wr := by
  conv => arg 2; whnf
  conv => arg 4; dsimp only
  go_loopw [52] (fun i wr => ∃ (k : Nat) (v : Value), k ≤ C.n ∧ i = .int .i64 k ∧ Fst w wr C seed (rk2 seed k) (stK seed k).order v) (fun i _ => C.n - (intOf i).toNat)
  case atStart => exact ⟨0, v0, Nat.zero_le _, rfl, h0⟩
  case round =>
    clear h0
    obtain ⟨k, v, hk, rfl, hF⟩ := hrel
    by_cases hl : k < C.n
    · obtain ⟨c1, c2, c3, c4, c5⟩ := hF.cells
      have r1 := hF.rk.cell hl
      have r2 := hF.rk.frozen k
      have r3 := hF.sd.cell hl
      have hne : C.SD ≠ C.RK := fun e => by obtain ⟨c1, h1, _⟩ := hF.sd; obtain ⟨c, h2, _⟩ := hF.rk; rw [e, h2] at h1; cases h1
      have hne2 : C.fp ≠ C.RK := fun e => by have h1 := hF.hfp; obtain ⟨c, h2, _⟩ := hF.rk; rw [e, h2] at h1; cases h1
      have hne3 : C.fv ≠ C.RK := fun e => by have h1 := hF.hfv; obtain ⟨c, h2, _⟩ := hF.rk; rw [e, h2] at h1; cases h1
      have hS := hF.setRank k (-1)
      have hlen := stK_len seed k
      have hfire := fire_any hS k hl (by omega)
      have HST := hid (rk2_step seed k)
      have HSK := hid (show stK seed (k + 1) = seedS seed (stK seed k) k from rfl)
      have HS := hid hS
      have HFI := hid hfire
      obtain ⟨sk, hsk⟩ : ∃ b, b = seed k := ⟨_, rfl⟩
      rw [← hsk] at r3
      have i0 : (0 : Int) ≤ (k : Int) := by omega
      have i1 : (k : Int) < (C.n : Int) := by omega
      have Hsk := hid hsk
      clear hF hS hfire hsk
      cases sk with
      | false =>
        go_wp2
        go_roundw
        case rel =>
          refine ⟨k + 1, v, by omega, by go_num, ?_⟩
          rw [HST.out, HSK.out, if_neg (by rw [← Hsk.out]; simp)]
          unfold seedS
          rw [if_neg (by rw [← Hsk.out]; simp)]
          exact HS.out
        case measure => simp [intOf]; omega
      | true =>
        go_wp2_with fail
        refine (HFI.out).mono ?_
        rintro e w' ⟨⟨u, rfl⟩, v', hF', _, _⟩
        have HF' := hid hF'
        clear HFI hF' HS
        go_wp2
        go_roundw
        case rel =>
          refine ⟨k + 1, v', by omega, by go_num, ?_⟩
          rw [HST.out, HSK.out, if_pos (Hsk.out.symm)]
          unfold seedS
          rw [if_pos (Hsk.out.symm)]
          exact HF'.out
        case measure => simp [intOf]; omega
    · have e : k = C.n := by omega
      subst e
      have hF2 : Fst w wr C seed (stK seed C.n).rank (stK seed C.n).order v := by
        refine ⟨hF.below, hF.hfv, hF.hfp, hF.sd, hF.rk.congr fun i hi => ?_, hF.hov, hF.own, hF.lo⟩
        unfold rk2
        rw [if_pos hi]
      clear hF
      go_wp2
      first | exact hF2 | exact hQ _ _ _ _ _ _ _ _ _ _ _ _ _ _ _ _ _ _ _ _ _ wr v hF2

end Go.Proofs.YbulkectmFmt.A
