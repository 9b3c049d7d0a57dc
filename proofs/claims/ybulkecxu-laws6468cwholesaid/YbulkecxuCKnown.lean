import Derived.Test.YbulkecxuCReg0
namespace Go.Proofs.Ybulkecxu.C
set_option linter.unusedVariables false
set_option linter.unusedSimpArgs false
open Go.RowKit Go.Deep

/-- The world in which the sequence begins: 'got', 'calls', 'limit', the box of n. -/
structure Begun (w : World) (g : Nat) (lim : Int) (n : Nat) (a : Option Addr) (len c : Nat) (A : Nat → List Value) : Prop where
  size : w.heap.size = g + 4
  gotc : w.heap[g]? = some (.cells #[.slice none 0 0] 22 (0, 0))
  callc : w.heap[g + 1]? = some (.cells #[.int .i64 0] 3 (0, 0))
  limc : w.heap[g + 2]? = some (.cells #[.int .i64 lim] 3 (0, 0))
  bxc : w.heap[g + 3]? = some (.cells #[P n] 29 (0, 0))
  succ : w.cell? ⟨n, 3384, none⟩ = some (.slice a len c)
  fin : Came w (some ⟨n, 24, none⟩) 160 A
  row : Came w a len (fun j => A (160 + j))
  low : n < g
  lowS : ∀ x, a = some x → 0 < len → x.block < g

theorem Begun.got {w : World} {g : Nat} {lim : Int} {n : Nat} {a : Option Addr} {len c : Nat} {A : Nat → List Value} (h : Begun w g lim n a len c A) :
    Got w ((w.alloc (.cells #[.slice (some ⟨n, 24, none⟩) 160 160, .slice a len c] 22)).drew) g lim n (.slice a len c) A 0 (.slice none 0 0) := by
  have hs := h.size
  have hk : ∀ i, i < g + 4 → ((w.alloc (.cells #[.slice (some ⟨n, 24, none⟩) 160 160, .slice a len c] 22)).drew).heap[i]? = w.heap[i]? := fun i hi => blk_alloc_lt _ _ _ (by omega)
  refine ⟨((Below.refl _ _).alloc (by omega) _).drew, by simp; omega, (hk _ (by omega)).trans h.gotc, (hk _ (by omega)).trans h.callc, (hk _ (by omega)).trans h.limc, (hk _ (by omega)).trans h.bxc, ?_, ⟨rfl, .inl ⟨rfl, rfl⟩⟩⟩
  rw [← hs]
  exact blk_alloc_new _ _

/-- How far it came. -/
def Ended (brk : Bool) (lim : Int) (len k : Nat) : Prop := (brk = true ∧ lim = (k : Int) ∧ k ≤ 160 + len) ∨ (k = 160 + len ∧ (brk = true → ((160 + len : Nat) : Int) < lim))

set_option maxRecDepth 1000000 in
set_option maxHeartbeats 4000000 in
/-- The sequence that 'known' makes, handed the law's yield. -/
theorem known_any (w : World) (g : Nat) (lim : Int) (n : Nat) (a : Option Addr) (len c : Nat) (A : Nat → List Value) (h : Begun w g lim n a len c A) (bb : Nat) (brk : Bool) (hbb : bb < g) (hbrk : w.cell? ⟨bb, 0, none⟩ = some (.bool brk))
    (hlen : len ≤ 1048576) (hlim : 0 < lim) :
    Calls Yba.prog 8 #[.func (.func 6) #[] #[.pointer (some ⟨g + 1, 0, none⟩), .pointer (some ⟨g, 0, none⟩), .pointer (some ⟨bb, 0, none⟩), .pointer (some ⟨g + 2, 0, none⟩)], .pointer (some ⟨g + 3, 0, none⟩)] w
      fun e w' => (∃ u, e = .returned u) ∧ ∃ k v, Got w w' g lim n (.slice a len c) A k v ∧ Ended brk lim len k := by
  have hG0 := h.got
  have hs := h.size
  have x1 : w.cell? ⟨g + 3, 0, none⟩ = some (.pointer (some ⟨n, 0, none⟩)) := by simp [World.cell?, h.bxc, P]
  have x2 := h.succ
  have H := hid h
  clear h
  go_enter Yba.func8, Yba.ntmps8
  go_wp2_with fail
  refine knownRegion0 w (g + 3) n a len c x1 x2 _ _ _ _ _ _ _ _ _ _ _ _ _ _ _ _ _ _ _ _ _ _ _ _ _ _ _ _ _ _ _ _ _ ?_
  intro v7 v8 v9 v10 v11 v12 v13 v14
  rw [hs]
  obtain ⟨W0, hW0⟩ : ∃ W0, W0 = (w.alloc (.cells #[.slice (some ⟨n, 24, none⟩) 160 160, .slice a len c] 22)).drew := ⟨_, rfl⟩
  rw [← hW0] at hG0 ⊢
  clear hW0 x1 x2
  have c1 : W0.cell? ⟨g + 4, 0, none⟩ = some (.slice (some ⟨n, 24, none⟩) 160 160) := by simp [World.cell?, hG0.lst]
  have HG0 := hid hG0
  clear hG0
  go_wp2
  refine wp_loop_rounds 3 ?_
  rw [rounds_succ]
  go_wp2
  refine seqLoop w W0 g lim n (.slice a len c) A 0 _ HG0.out bb brk hbb hbrk (by omega) (some ⟨n, 24, none⟩) 160 160 (by simpa using H.out.fin) (fun x hx _ => by cases hx; exact H.out.low) (by omega) (by omega) (fun _ => hlim) _ _ _ _ _ _ _ _ _ _ _ _ _ _ _ _ _ _ _ _ _ _ _ _ _ _ _ _ _ _ ?_ ?_
  · intro v6 v23 v24 v25 v26 v27 v28 v29 v30 v31 w1 v1 hG1 hl1
    clear HG0 c1
    have c2 : w1.cell? ⟨g + 4, 1, none⟩ = some (.slice a len c) := by simp [World.cell?, hG1.lst]
    have HG1 := hid hG1
    have HL1 := hid hl1
    clear hG1 hl1
    go_wp2
    rw [rounds_succ]
    go_wp2
    refine seqLoop w w1 g lim n (.slice a len c) A 160 _ (by simpa using HG1.out) bb brk hbb hbrk (by omega) a len c H.out.row H.out.lowS hlen (by omega) (by simpa using HL1.out) _ _ _ _ _ _ _ _ _ _ _ _ _ _ _ _ _ _ _ _ _ _ _ _ _ _ _ _ _ _ ?_ ?_
    · intro v6 v23 v24 v25 v26 v27 v28 v29 v30 v31 w2 v2 hG2 hl2
      have HG2 := hid hG2
      have HL2 := hid hl2
      clear HG1 c2 hG2 hl2
      go_wp2
      rw [rounds_succ]
      go_wp2
      go_end0
      exact ⟨⟨_, rfl⟩, _, _, HG2.out, .inr ⟨rfl, HL2.out⟩⟩
    · intro v6 v23 v24 v25 v26 v27 v28 v29 v30 v31 w2 v2 j hj hb hlj hG2
      have HG2 := hid hG2
      have HE : Hid (Ended brk lim len (160 + j)) := hid (.inl ⟨hb, hlj, by omega⟩)
      clear HG1 c2 hG2 hlj hb
      go_wp2
      (try simp only [Exit.inBlock, Exit.then]); refine bodyPost_ret (results_none rfl _ _ _) rfl ?_
      exact ⟨⟨_, rfl⟩, _, _, HG2.out, HE.out⟩
  · intro v6 v23 v24 v25 v26 v27 v28 v29 v30 v31 w2 v2 j hj hb hlj hG2
    have HG2 := hid hG2
    have HE : Hid (Ended brk lim len (0 + j)) := hid (.inl ⟨hb, hlj, by omega⟩)
    clear HG0 c1 hG2 hlj hb
    go_wp2
    (try simp only [Exit.inBlock, Exit.then]); refine bodyPost_ret (results_none rfl _ _ _) rfl ?_
    exact ⟨⟨_, rfl⟩, _, _, HG2.out, HE.out⟩

end Go.Proofs.Ybulkecxu.C
