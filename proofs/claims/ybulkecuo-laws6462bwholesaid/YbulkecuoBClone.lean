import Derived.Test.YbulkecuoBHeld
import Derived.Deep.LoopGhost
import Derived.WalkSpells
namespace Go.Proofs.Ybulkecuo.B
open Go.RowKit Go.Deep

theorem neq58 (w : World) (a : Nat) (m : Int) : (binOp .neq 58 (.agg #[.pointer (some ⟨a, 0, none⟩), .int .u8 m]) (.agg #[.pointer (some ⟨a, 0, none⟩), .int .u8 m])).run Yba.prog w = .ok (.bool false) w := by
  obtain ⟨j, hj, hs⟩ := info33
  have hp : ∀ d, (Op.equalIn (d + 1) 47 (.pointer (some ⟨a, 0, none⟩)) (.pointer (some ⟨a, 0, none⟩))).run Yba.prog w = .ok true w := fun d => by
    simp [Op.equalIn, run_underlying Yba.underlying47, sizeOf, typeInfo, hj, run_sameAddr_same]
  rw [run_neq_struct]
  have hp' := hp 9998
  simp [go_sem, hp']

set_option maxRecDepth 100000 in
set_option maxHeartbeats 1000000 in
/-- slices.Equal of two rows that hold the same. -/
theorem equal_any (b1 b2 n : Nat) (v1 v2 : Value) (es : List (Nat × Int)) (w : World) (h1 : w.ownsRow b1 58 2 v1 n (flat es)) (h2 : w.ownsRow b2 58 2 v2 n (flat es)) (hn : n ≤ 65536) :
    Calls Yba.prog 13 #[v1, v2] w fun e w' => e = .returned (.bool true) ∧ ∃ k, w' = w.drewN k := by
  have hl : es.length = n := by have := h1.1; rw [flat_length] at this; omega
  rcases h1.2 with ⟨rfl, rfl⟩ | ⟨g1, c1, cur1, rfl, _⟩
  · rcases h2.2 with ⟨rfl, _⟩ | ⟨g2, c2, cur2, rfl, _⟩
    all_goals
      go_enter Yba.func13, Yba.ntmps13
      go_wp2
      go_loopw [13] (fun i wr => i = .int .i64 0 ∧ wr = w) (fun _ _ => 0)
      case atStart => exact ⟨rfl, rfl⟩
      case round =>
        obtain ⟨rfl, rfl⟩ := hrel
        go_wp2
        go_ret
        exact ⟨rfl, 0, rfl⟩
  · rcases h2.2 with ⟨rfl, rfl⟩ | ⟨g2, c2, cur2, rfl, _⟩
    · go_enter Yba.func13, Yba.ntmps13
      go_wp2
      go_loopw [13] (fun i wr => i = .int .i64 0 ∧ wr = w) (fun _ _ => 0)
      case atStart => exact ⟨rfl, rfl⟩
      case round =>
        obtain ⟨rfl, rfl⟩ := hrel
        go_wp2
        go_ret
        exact ⟨rfl, 0, rfl⟩
    · go_enter Yba.func13, Yba.ntmps13
      go_wp2
      go_loopw [13] (fun i wr => ∃ k d : Nat, k ≤ n ∧ i = .int .i64 k ∧ wr = w.drewN d) (fun i _ => n - (intOf i).toNat)
      case atStart => exact ⟨0, 0, Nat.zero_le _, rfl, rfl⟩
      case round =>
        obtain ⟨k, d, hk, rfl, rfl⟩ := hrel
        by_cases hlt : k < n
        · have hkl : k < es.length := by omega
          have q1 := own_cells h1 k hkl
          have q2 := own_cells h2 k hkl
          obtain ⟨p, hp⟩ : ∃ p, p = es[k] := ⟨_, rfl⟩
          rw [← hp] at q1 q2
          obtain ⟨q11, q12⟩ := q1
          obtain ⟨q21, q22⟩ := q2
          have i0 : (0 : Int) ≤ (k : Int) := by omega
          have i1 : (k : Int) < (n : Int) := by omega
          have hq := fun W => neq58 W p.1 p.2
          clear hp
          go_wp2
          go_quiet (fail)
          go_wp2
          go_roundw
          case rel => exact ⟨k + 1, _, by omega, by go_num, rfl⟩
          case measure => simp [intOf]; omega
        · have : n = k := by omega
          subst this
          go_wp2
          go_ret
          exact ⟨rfl, d, rfl⟩

theorem flat_one (es : List (Nat × Int)) : ∀ u ∈ flat es, u.oneCell' = true := by
  induction es with
  | nil => intro u hu; simp [flat] at hu
  | cons e es ih =>
    intro u hu
    rw [show e :: es = [e] ++ es from rfl, flat_append] at hu
    rcases List.mem_append.1 hu with hu | hu
    · simp [flat] at hu
      rcases hu with rfl | rfl <;> rfl
    · exact ih u hu

theorem eql49 (w : World) (a : Option Addr) (n c : Nat) : (binOp .eql 49 (.slice a n c) (.slice none 0 0)).run Yba.prog w = .ok (.bool a.isNone) w := by
  simp only [binOp]
  simp [Op.equal, Op.maxDepth, run_equalIn_slice_nil w 9999 49 58 a n c Yba.underlying49]

set_option maxRecDepth 100000 in
set_option maxHeartbeats 1000000 in
/-- slices.Clone of an owned row (nil where it is empty). -/
theorem clone_any (base n : Nat) (v : Value) (es : List (Nat × Int)) (w : World) (hown : w.ownsRow base 58 2 v n (flat es)) (hn : n ≤ 65536) (hnil : n = 0 → v = .slice none 0 0) :
    Calls Yba.prog 10 #[v] w fun e w' => ∃ v', e = .returned v' ∧ w'.ownsRow w.heap.size 58 2 v' n (flat es) ∧ Below w.heap.size w w' := by
  have hl : es.length = n := by have := hown.1; rw [flat_length] at this; omega
  by_cases h0 : n = 0
  · have hv := hnil h0
    subst hv
    have hes : es = [] := List.length_eq_zero_iff.1 (by omega)
    subst hes
    subst h0
    have hq := eql49 w none 0 0
    go_enter Yba.func10, Yba.ntmps10
    go_wp2
    go_ret
    exact ⟨_, rfl, ⟨rfl, .inl ⟨rfl, rfl⟩⟩, Below.refl _ _⟩
  · obtain ⟨g, cap, rfl⟩ : ∃ g cap, v = .slice (some ⟨g, 0, none⟩) n cap := by
      rcases hown.2 with ⟨_, e⟩ | ⟨g, cap, cur, e, _⟩
      · exact absurd e h0
      · exact ⟨g, cap, e⟩
    obtain ⟨i0, hi0, hz0, hz1, hz2⟩ := info_parts info58
    have hnew : ∀ (j : Nat) (u : Value), (flat es)[j]? = some u → (w.alloc (.cells #[] 58)).cell? ((⟨g, 0, none⟩ : Addr).add j) = some u := fun j u hj => by
      have hlt : j < n * 2 := by rw [← hown.1]; exact (List.getElem?_eq_some_iff.1 hj).1
      have hc := (hown.alloc (.cells #[] 58)).cellAt j hlt
      rw [hj] at hc
      by_cases hj0 : j = 0
      · subst hj0; exact hc
      · have e1 : (⟨g, 0, none⟩ : Addr).add j = ⟨g, j, none⟩ := by simp [Addr.add, hj0]
        rw [e1]; exact hc
    have hone : ∀ u ∈ flat es, u.oneCell' = true := flat_one es
    have h63 : 0 + n ≤ maxLen := by unfold maxLen; omega
    have hrow : (w.alloc (.cells #[] 58)).ownsRow w.heap.size 58 2 (.slice (some ⟨w.heap.size, 0, none⟩) 0 0) 0 [] := ⟨rfl, .inr ⟨w.heap.size, 0, #[], rfl, Nat.le_refl _, blk_alloc_new _ _, Nat.le_refl _, Nat.zero_le _, rfl, rfl⟩⟩
    have hq := eql49 w (some ⟨g, 0, none⟩) n cap
    have hbel : Below w.heap.size w (w.alloc (.cells #[] 58)) := (Below.refl _ _).alloc (Nat.le_refl _) _
    go_enter Yba.func10, Yba.ntmps10
    go_wp2_with ((at_builtin; refine wpList_append_lies _ rfl (.tmp 5) (.tmp 6) 49 rfl w.heap.size 58 i0 (.agg #[.pointer none, .int .u8 0]) 2 16 Yba.underlying49 hi0 hz0 hz1 hz2 rfl (by omega) (.slice (some ⟨w.heap.size, 0, none⟩) 0 0) 0 [] rfl hrow ⟨g, 0, none⟩ n cap (flat es) rfl hown.1 hnew hone (by omega) h63 (by omega) (by simp) (w.heap.size + 1) (by simp) ?_; intro g2 cap2 w1 ho1 hgr hat hlt2))
    go_ret
    refine ⟨_, rfl, by simpa using ho1, hgr.os, hgr.tape, hgr.output, ?_, fun k hk => ?_⟩
    · have := hgr.size
      rw [nblk_alloc] at this
      omega
    · rw [hgr.block k (by rw [nblk_alloc]; omega) (fun e => by simp [Value.ownBlock] at e; omega)]
      exact blk_alloc_lt _ _ _ hk

end Go.Proofs.Ybulkecuo.B
