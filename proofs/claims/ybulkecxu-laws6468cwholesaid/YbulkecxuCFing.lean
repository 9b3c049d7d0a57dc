import Derived.Test.YbulkecxuCReg8
namespace Go.Proofs.Ybulkecxu.C
set_option linter.unusedVariables false
set_option linter.unusedSimpArgs false
open Go.RowKit Go.Deep

theorem below_setCells {B b : Nat} {w W : World} (h : Below B w W) (hb : B ≤ b) : ∀ (l : List Value) (o : Nat), Below B w (W.setCells b o l) := by
  intro l
  induction l generalizing W with
  | nil => intro o; exact h
  | cons x l ih => intro o; exact ih (h.setCell (by simpa using hb) x) (o + 1)
theorem nblk_setCells (b : Nat) : ∀ (l : List Value) (o : Nat) (W : World), (W.setCells b o l).heap.size = W.heap.size := by
  intro l
  induction l with
  | nil => intro o W; rfl
  | cons x l ih => intro o W; rw [World.setCells, ih, nblk_setCell]

/-- The node, as far as its fingers are laid. -/
structure Fing (w wr : World) (n : Nat) (F : Nat → List Value) (k : Nat) : Prop where
  below : Below n w wr
  size : wr.heap.size = n + 1
  fin : ∀ i, i < 160 → wr.rangeAt n (24 + i * 21) (if i < k then F i else zeroM)
  there : wr.there n 24 3361

theorem Fing.room {w wr : World} {n : Nat} {F : Nat → List Value} {k : Nat} (h : Fing w wr n F k) (hk : k < 160) : wr.there n (24 + k * 21) 21 := fun j hj => by
  have := h.there (k * 21 + j) (by omega)
  rw [← Nat.add_assoc] at this
  exact this

theorem Fing.step {w wr : World} {n : Nat} {F : Nat → List Value} {k : Nat} (h : Fing w wr n F k) (hk : k < 160) (hm : ∀ i, i ≤ k → Mem (F i)) : Fing w ((wr.drew).setCells n (24 + k * 21) (F k)) n F (k + 1) := by
  have hr : wr.drew.there n (24 + k * 21) 21 := h.room hk
  have hl := (hm k (Nat.le_refl _)).len
  refine ⟨below_setCells h.below.drew (Nat.le_refl _) _ _, by rw [nblk_setCells]; exact h.size, fun i hi => ?_, World.there_setCells (by simpa using h.there) _ _ _⟩
  by_cases e : i = k
  · subst e
    rw [if_pos (by omega)]
    exact World.rangeAt_setCells_same _ _ _ _ (by rw [hl]; exact hr)
  · have hf := h.fin i hi
    have e1 : (if i < k + 1 then F i else zeroM) = (if i < k then F i else zeroM) := by
      by_cases h1 : i < k
      · rw [if_pos h1, if_pos (by omega)]
      · rw [if_neg h1, if_neg (by omega)]
    rw [e1]
    refine World.rangeAt_setCells_apart (w := wr.drew) (by simpa using hf) _ _ _ (.inr ?_)
    by_cases h1 : i < k
    · left
      rw [if_pos h1, (hm i (by omega)).len]
      omega
    · right
      omega

set_option maxRecDepth 1000000 in
set_option maxHeartbeats 4000000 in
/-- 'for i := 0; i < idBits && i < len(fs); i++ { n.fingers[i] = fs[i] }'. -/
theorem loop1 (w wr : World) (n : Nat) (F : Nat → List Value) (h0 : Fing w wr n F 0) (a : Option Addr) (len c : Nat) (hc : Came w a len F) (hlow : ∀ x, a = some x → 0 < len → x.block < n) (hlen : len ≤ 1048576)
    (Q : Exit → Act → World → Prop) (s1 s2 s3 s4 s5 s6 s7 s8 s9 s12 s13 s14 s15 s16 s17 s18 s19 s20 s21 s22 s23 s24 s25 s26 s27 s28 s29 s30 s31 s32 s33 s34 s35 s36 s37 s38 s39 s40 s41 s42 s43 s44 s45 s46 s47 s48 s49 s50 s51 s52 s53 s54 s55 s56 s57 s58 s59 s60 s61 s62 s63 s64 s65 s66 s67 s68 s69 s70 s71 s72 s73 s74 s75 s76 s77 s78 s79 s80 s81 s82 s83 s84 s85 s86 s87 s88 s89 s90 s91 s92 s93 s94 s95 s96 s97 s98 s99 s100 s101 s102 s103 s104 s105 s106 s107 s108 s109 s110 s111 s112 s113 s114 s115 s116 s117 : Value)
    (hQ : ∀ (v11 v33 v34 v35 v36 v37 v38 v39 v40 v41 v42 v43 v44 v45 v46 v47 v48 v49 v50 v51 : Value) (w1 : World) (k : Nat), k ≤ 160 → k ≤ len → (k = 160 ∨ k = len) → Fing w w1 n F k → Q .normal ⟨#[.slice a len c, s1, s2, s3, s4, s5, s6, s7, s8, s9, .pointer (some ⟨n, 0, none⟩), v11, s12, s13, s14, s15, s16, s17, s18, s19, s20, s21, s22, s23, s24, s25, s26, s27, s28, s29, s30, s31, s32, v33, v34, v35, v36, v37, v38, v39, v40, v41, v42, v43, v44, v45, v46, v47, v48, v49, v50, v51, s52, s53, s54, s55, s56, s57, s58, s59, s60, s61, s62, s63, s64, s65, s66, s67, s68, s69, s70, s71, s72, s73, s74, s75, s76, s77, s78, s79, s80, s81, s82, s83, s84, s85, s86, s87, s88, s89, s90, s91, s92, s93, s94, s95, s96, s97, s98, s99, s100, s101, s102, s103, s104, s105, s106, s107, s108, s109, s110, s111, s112, s113, s114, s115, s116, s117], []⟩ w1) :
    Code.wp Yba.prog ((Yba.f3.body.bind (findLoop 6)).getD .skip) (Exit.inBlock 0 Q) ⟨#[.slice a len c, s1, s2, s3, s4, s5, s6, s7, s8, s9, .pointer (some ⟨n, 0, none⟩), .int .i64 0, s12, s13, s14, s15, s16, s17, s18, s19, s20, s21, s22, s23, s24, s25, s26, s27, s28, s29, s30, s31, s32, s33, s34, s35, s36, s37, s38, s39, s40, s41, s42, s43, s44, s45, s46, s47, s48, s49, s50, s51, s52, s53, s54, s55, s56, s57, s58, s59, s60, s61, s62, s63, s64, s65, s66, s67, s68, s69, s70, s71, s72, s73, s74, s75, s76, s77, s78, s79, s80, s81, s82, s83, s84, s85, s86, s87, s88, s89, s90, s91, s92, s93, s94, s95, s96, s97, s98, s99, s100, s101, s102, s103, s104, s105, s106, s107, s108, s109, s110, s111, s112, s113, s114, s115, s116, s117], []⟩ wr := by
  conv => arg 2; whnf
  conv => arg 4; dsimp only
  go_loopw [11] (fun i wr => ∃ k : Nat, k ≤ 160 ∧ k ≤ len ∧ i = .int .i64 k ∧ Fing w wr n F k) (fun i _ => 160 - (intOf i).toNat)
  case atStart => exact ⟨0, Nat.zero_le _, Nat.zero_le _, rfl, h0⟩
  case round =>
    clear h0
    obtain ⟨k, hk, hk2, rfl, hF⟩ := hrel
    by_cases h1 : k < 160
    · have t1 : decide ((k : Int) < 160) = true := by simp; omega
      by_cases h2 : k < len
      · obtain ⟨hm, b, o, rfl, hr⟩ := hc k h2
        have hb : b < n := hlow _ rfl (by omega)
        have r1 : wr.rangeAt b (o + k * 21) (F k) := fun q u hu => cell_keep hF.below hb (hr k h2 q u hu)
        have HS := hid (hF.step h1 (fun i hi => (hc i (by omega)).1))
        have HR := hid (hF.room h1)
        have HR1 := hid r1
        have HM := hid hm
        have i1 : (k : Int) < (len : Int) := by omega
        have i2 : (k : Int) < 160 := by omega
        clear hF hr r1 hm hc
        go_wp2_with fail
        refine region8 wr n b o len c k (F k) HM.out HR1.out HR.out h2 h1 _ _ _ _ _ _ _ _ _ _ _ _ _ _ _ _ _ _ _ _ _ _ _ _ _ _ _ _ _ _ _ _ _ _ _ _ _ _ _ _ _ _ _ _ _ _ _ _ _ _ _ _ _ _ _ _ _ _ _ _ _ _ _ _ _ _ _ _ _ _ _ _ _ _ _ _ _ _ _ _ _ _ _ _ _ _ _ _ _ _ _ _ _ _ _ _ _ _ _ _ _ _ _ _ _ _ _ _ _ _ _ _ _ _ _ _ ?_
        intro v43 v44 v45 v46 v47 v48 v49 v50 v51
        obtain ⟨W1, hW1⟩ : ∃ W1, W1 = (wr.drew).setCells n (24 + k * 21) (F k) := ⟨_, rfl⟩
        rw [← hW1] at HS ⊢
        clear hW1 HR HR1 HM
        go_wp2
        go_roundw
        case rel => exact ⟨k + 1, by omega, by omega, by go_num, HS.out⟩
        case measure => simp [intOf]; omega
      · have e : len = k := by omega
        subst e
        have i2 : (len : Int) < 160 := by omega
        go_wp2
        exact hQ _ _ _ _ _ _ _ _ _ _ _ _ _ _ _ _ _ _ _ _ wr len (by omega) (Nat.le_refl _) (.inr rfl) hF
    · have e : k = 160 := by omega
      subst e
      go_wp2
      exact hQ _ _ _ _ _ _ _ _ _ _ _ _ _ _ _ _ _ _ _ _ wr 160 (Nat.le_refl _) (by omega) (.inl rfl) hF

end Go.Proofs.Ybulkecxu.C
