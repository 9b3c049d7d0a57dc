import Derived.Test.YbulkecxuCYield
import Derived.Deep.LoopGhost
namespace Go.Proofs.Ybulkecxu.C
set_option linter.unusedVariables false
set_option linter.unusedSimpArgs false
open Go.RowKit Go.Deep
attribute [local go_sem ↓] toLd28 toSt28

def begins (n : Nat) : Code → Bool
  | .region k _ _ => k == n
  | .seq a _ => begins n a
  | .block _ c => begins n c
  | .scope c => begins n c
  | _ => false
/-- The loop that begins with the region of that number. -/
def findLoop (n : Nat) : Code → Option Code
  | .seq a b => match findLoop n a with
    | some c => some c
    | none => findLoop n b
  | .block _ c => findLoop n c
  | .loop c => if begins n c = true then some (.loop c) else findLoop n c
  | .scope c => findLoop n c
  | .cond _ a b => match findLoop n a with
    | some c => some c
    | none => findLoop n b
  | _ => none
/-- The region of that number in a function's text. -/
def findRegion (n : Nat) : Code → Option Code
  | .region k ops b => if k = n then some (.region k ops b) else none
  | .seq a b => match findRegion n a with
    | some c => some c
    | none => findRegion n b
  | .block _ c => findRegion n c
  | .loop c => findRegion n c
  | .scope c => findRegion n c
  | .cond _ a b => match findRegion n a with
    | some c => some c
    | none => findRegion n b
  | _ => none

/-- A new variable of a member, and a member stored into it. -/
theorem new_mem (wr : World) (z : Array Value) (hz : z.size = 21) (m : List Value) (hm : Mem m) :
    ∃ W2, (st28 (.pointer (some ⟨wr.heap.size, 0, none⟩)) (.agg m.toArray)).run Yba.prog (wr.alloc (.cells z 28)) = .ok () W2 ∧ (ld28 (.pointer (some ⟨wr.heap.size, 0, none⟩))).run Yba.prog W2 = .ok (.agg m.toArray) W2 ∧ Below wr.heap.size wr W2 := by
  have ht : (wr.alloc (.cells z 28)).there wr.heap.size 0 21 := fun j hj => by
    have hb := blk_alloc_new wr (.cells z 28)
    exact ⟨by simp only [World.cell?, hb, Nat.zero_add]; simp [hz, hj], by simp only [World.frozen?, hb]; simp⟩
  refine ⟨(wr.alloc (.cells z 28)).setCells wr.heap.size 0 m, store_mem _ _ 0 m hm ht, load_mem _ _ _ m hm (World.rangeAt_setCells_same _ _ _ _ (by rw [hm.len]; exact ht)), ?_⟩
  have : ∀ (l : List Value) (o : Nat) (W : World), Below wr.heap.size wr W → Below wr.heap.size wr (W.setCells wr.heap.size o l) := by
    intro l
    induction l with
    | nil => intro o W h; exact h
    | cons x l ih => intro o W h; exact ih (o + 1) _ (h.setCell (by simp) _)
  exact this m 0 _ ((Below.refl _ _).alloc (Nat.le_refl _) _)

set_option maxRecDepth 1000000 in
set_option maxHeartbeats 4000000 in
/-- One list, through the yield. -/
theorem seqLoop (w wr : World) (g : Nat) (lim : Int) (n : Nat) (sl : Value) (A : Nat → List Value) (k0 : Nat) (v0 : Value) (h0 : Got w wr g lim n sl A k0 v0) (bb : Nat) (brk : Bool) (hbb : bb < g) (hbrk : w.cell? ⟨bb, 0, none⟩ = some (.bool brk))
    (hgw : g ≤ w.heap.size) (a : Option Addr) (len c : Nat) (hc : Came w a len (fun j => A (k0 + j))) (hlow : ∀ x, a = some x → 0 < len → x.block < g) (hlen : len ≤ 1048576) (hk0 : k0 ≤ 160) (hlim : brk = true → (k0 : Int) < lim)
    (Q : Exit → Act → World → Prop) (s1 s2 s3 s4 s5 s6 s7 s8 s9 s10 s11 s12 s13 s14 s15 s16 s17 s18 s19 s20 s24 s25 s26 s27 s28 s29 s30 s31 s32 : Value)
    (hQ : ∀ (v6 v23 v24 v25 v26 v27 v28 v29 v30 v31 : Value) (w1 : World) (v1 : Value), Got w w1 g lim n sl A (k0 + len) v1 → (brk = true → ((k0 + len : Nat) : Int) < lim) → Q .normal ⟨#[.func (.func 6) #[] #[.pointer (some ⟨g + 1, 0, none⟩), .pointer (some ⟨g, 0, none⟩), .pointer (some ⟨bb, 0, none⟩), .pointer (some ⟨g + 2, 0, none⟩)], s1, s2, s3, s4, s5, v6, s7, s8, s9, s10, s11, s12, s13, s14, s15, s16, s17, s18, s19, s20, .slice a len c, .int .i64 (len : Int), v23, v24, v25, v26, v27, v28, v29, v30, v31, s32], []⟩ w1)
    (hR : ∀ (v6 v23 v24 v25 v26 v27 v28 v29 v30 v31 : Value) (w1 : World) (v1 : Value) (j : Nat), j ≤ len → brk = true → lim = ((k0 + j : Nat) : Int) → Got w w1 g lim n sl A (k0 + j) v1 → Q .ret ⟨#[.func (.func 6) #[] #[.pointer (some ⟨g + 1, 0, none⟩), .pointer (some ⟨g, 0, none⟩), .pointer (some ⟨bb, 0, none⟩), .pointer (some ⟨g + 2, 0, none⟩)], s1, s2, s3, s4, s5, v6, s7, s8, s9, s10, s11, s12, s13, s14, s15, s16, s17, s18, s19, s20, .slice a len c, .int .i64 (len : Int), v23, v24, v25, v26, v27, v28, v29, v30, v31, s32], []⟩ w1) :
    Code.wp Yba.prog ((Yba.f8.body.bind (findLoop 4)).getD .skip) (Exit.inBlock 2 Q) ⟨#[.func (.func 6) #[] #[.pointer (some ⟨g + 1, 0, none⟩), .pointer (some ⟨g, 0, none⟩), .pointer (some ⟨bb, 0, none⟩), .pointer (some ⟨g + 2, 0, none⟩)], s1, s2, s3, s4, s5, s6, s7, s8, s9, s10, s11, s12, s13, s14, s15, s16, s17, s18, s19, s20, .slice a len c, .int .i64 (len : Int), .int .i64 0, s24, s25, s26, s27, s28, s29, s30, s31, s32], []⟩ wr := by
  conv => arg 2; whnf
  conv => arg 4; dsimp only
  go_loopw [23] (fun i wr => ∃ (j : Nat) (v : Value), j ≤ len ∧ i = .int .i64 j ∧ Got w wr g lim n sl A (k0 + j) v ∧ (brk = true → ((k0 + j : Nat) : Int) < lim)) (fun i _ => len - (intOf i).toNat)
  case atStart => exact ⟨0, v0, Nat.zero_le _, rfl, h0, hlim⟩
  case round =>
    clear h0
    obtain ⟨j, v, hj, rfl, hG, hl⟩ := hrel
    by_cases hlt : j < len
    · obtain ⟨hm, b, o, rfl, hr⟩ := hc j hlt
      have hb : b < g := hlow _ rfl (by omega)
      have q1 := load_mem wr b (o + j * 21) (A (k0 + j)) hm (fun q u hu => cell_keep hG.below hb (hr j hlt q u hu))
      have i0 : (0 : Int) ≤ (j : Int) := by omega
      have i1 : (j : Int) < (len : Int) := by omega
      obtain ⟨W2, hst, hld, hB2⟩ := new_mem wr #[.int .u8 0, .int .u8 0, .int .u8 0, .int .u8 0, .int .u8 0, .int .u8 0, .int .u8 0, .int .u8 0, .int .u8 0, .int .u8 0, .int .u8 0, .int .u8 0, .int .u8 0, .int .u8 0, .int .u8 0, .int .u8 0, .int .u8 0, .int .u8 0, .int .u8 0, .int .u8 0, .string ⟨#[]⟩] rfl (A (k0 + j)) hm
      have hY := yield_any w W2 g lim n sl A (k0 + j) v (hG.keep hB2) bb brk hbb ((cell_keep hB2 (by have := hG.size; omega) (cell_keep hG.below hbb hbrk))) hm (by omega)
      clear hm hr hB2 hG hc
      cases brk with
      | false =>
        have HY := hid hY
        clear hY
        go_wp2_with fail
        refine (HY.out).mono ?_
        rintro e w' ⟨rfl, v', hG'⟩
        clear HY
        simp only [Bool.false_and, Bool.not_false]
        go_wp2
        go_roundw
        case rel => exact ⟨j + 1, v', by omega, by go_num, hG', fun h => absurd h (by simp)⟩
        case measure => simp [intOf]; omega
      | true =>
        by_cases ht : lim ≤ ((k0 + j : Nat) : Int) + 1
        · rw [show (!(true && decide (lim ≤ ((k0 + j : Nat) : Int) + 1))) = false by simp; omega] at hY
          have HY := hid hY
          have HT := hid ht
          have HL := hid hl
          clear hl hY ht
          go_wp2_with fail
          refine (HY.out).mono ?_
          rintro e w' ⟨rfl, v', hG'⟩
          clear HY
          go_wp2
          refine hR _ _ _ _ _ _ _ _ _ _ w' v' (j + 1) (by omega) (by simp) ?_ hG'
          have := HT.out
          have := HL.out (by simp)
          omega
        · rw [show (!(true && decide (lim ≤ ((k0 + j : Nat) : Int) + 1))) = true by simp; omega] at hY
          have HY := hid hY
          have HT := hid ht
          clear hY ht
          go_wp2_with fail
          refine (HY.out).mono ?_
          rintro e w' ⟨rfl, v', hG'⟩
          clear HY
          go_wp2
          go_roundw
          case rel => exact ⟨j + 1, v', by omega, by go_num, hG', fun _ => by have := HT.out; omega⟩
          case measure => simp [intOf]; omega
    · have e : len = j := by omega
      subst e
      go_wp2
      first | exact hG | exact hQ _ _ _ _ _ _ _ _ _ _ _ _ hG hl
      all_goals exact hl

end Go.Proofs.Ybulkecxu.C
