import Derived.Test.YbulkectmFmtAEnter
namespace Go.Proofs.YbulkectmFmt.A
set_option linter.unusedVariables false
set_option linter.unusedSimpArgs false
open Go.RowKit Go.Deep

theorem info78 : (Ybaf.prog.info? 78).map (fun i => (i.zero, i.size, i.bytes)) = some (some (.agg #[.int .i64 0, .slice none 0 0, .int .i64 0]), 3, 40) := by kernel_rfl

abbrev Stp := Nat × Value × Nat
def sc (s : Stp) : List Value := [.int .i64 (s.1 : Int), s.2.1, .int .i64 (s.2.2 : Int)]
def scs (St : List Stp) : List Value := St.flatMap sc
theorem scs_append (A B : List Stp) : scs (A ++ B) = scs A ++ scs B := by simp [scs]
theorem scs_one (s : Stp) : scs [s] = sc s := by simp [scs]
theorem scs_len (St : List Stp) : (scs St).length = St.length * 3 := by
  induction St with
  | nil => rfl
  | cons a l ih =>
    show (sc a ++ scs l).length = _
    rw [List.length_append, ih, List.length_cons]
    simp [sc]; omega
theorem scs_get (S : List Stp) (s : Stp) (T : List Stp) (j : Nat) (hj : j < 3) : (scs (S ++ s :: T))[S.length * 3 + j]? = (sc s)[j]? := by
  rw [scs_append, List.getElem?_append_right (by rw [scs_len]; omega), scs_len, show S.length * 3 + j - S.length * 3 = j by omega]
  show (sc s ++ scs T)[j]? = _
  rw [List.getElem?_append_left (by simp [sc]; omega)]

theorem own_shrink {w : World} {base : Nat} {e : TypeId} {size g n cap : Nat} {xs ys : List Value} (h : w.ownsRow base e size (.slice (some ⟨g, 0, none⟩) (n + 1) cap) (n + 1) (xs ++ ys)) (hy : ys.length = size) : w.ownsRow base e size (.slice (some ⟨g, 0, none⟩) n cap) n xs := by
  have hl : xs.length = n * size := by
    have := h.1
    rw [List.length_append, hy, Nat.add_mul] at this
    omega
  refine ⟨hl, ?_⟩
  rcases h.2 with ⟨e, _⟩ | ⟨g', cap', cur, e, h1, h2, h3, h4, h5, h6⟩
  · cases e
  · cases e
    refine .inr ⟨g, cap, cur, rfl, h1, h2, by omega, h4, h5, ?_⟩
    have h7 := congrArg (List.take (n * size)) h6
    rw [List.take_take, ← hl, List.take_left] at h7
    rw [← hl]
    have e2 : min xs.length ((n + 1) * size) = xs.length := by rw [hl, Nat.add_mul]; omega
    rw [e2] at h7
    exact h7
theorem own_set {w : World} {base : Nat} {e : TypeId} {size g n cap : Nat} {xs ys : List Value} {x : Value} (h : w.ownsRow base e size (.slice (some ⟨g, 0, none⟩) n cap) n (xs ++ x :: ys)) (x' : Value) : (w.setCell ⟨g, xs.length, none⟩ x').ownsRow base e size (.slice (some ⟨g, 0, none⟩) n cap) n (xs ++ x' :: ys) := by
  refine ⟨by have := h.1; simpa using this, ?_⟩
  rcases h.2 with ⟨e, _⟩ | ⟨g', cap', cur, e, h1, h2, h3, h4, h5, h6⟩
  · cases e
  · cases e
    refine .inr ⟨g, cap, cur.setIfInBounds xs.length x', rfl, h1, ?_, h3, h4, by simpa using h5, ?_⟩
    · simp [World.setCell, Array.getElem?_modify, h2]
    · rw [Array.toList_setIfInBounds]
      have hlt : xs.length < n * size := by have := h.1; simp at this; omega
      rw [List.take_set, h6]
      simp

/-- Where a chain's walk lies. -/
structure KC where
  gB : Nat
  fB : Nat
  mB : Nat
  EB : Nat
  eV : Nat
  base : Nat

/-- A chain's walk in memory: the stack, its bottom first. -/
structure Chs (w wr : World) (K : KC) (gp fp RB n : Nat) (pref : Nat → List Nat) (E : Nat → Bool) (St : List Stp) (v : Value) : Prop where
  below : Below w.heap.size w wr
  hg : wr.heap[K.gB]? = some (.cells #[.pointer (some ⟨gp, 0, none⟩)] 46 (0, 0))
  hf : wr.heap[K.fB]? = some (.cells #[.pointer (some ⟨fp, 0, none⟩)] 66 (0, 0))
  hm : wr.heap[K.mB]? = some (.cells #[.slice (some ⟨RB, 0, none⟩) n n] 55 (0, 0))
  he : wr.heap[K.eV]? = some (.cells #[.slice (some ⟨K.EB, 0, none⟩) n n] 55 (0, 0))
  eb : wr.rowIs K.EB 4 n (fun i => .bool (E i))
  own : wr.ownsRow K.base 78 3 v St.length (scs St)
  ent : ∀ s ∈ St, ∃ a c, s.2.1 = .slice a (pref s.1).length c ∧ ∀ j (h : j < (pref s.1).length), ∃ b o, a = some ⟨b, o, none⟩ ∧ b ≠ K.EB ∧ v.ownBlock ≠ some b ∧ wr.cell? ⟨b, o + j, none⟩ = some (.int .i64 (((pref s.1)[j] : Nat) : Int))
  lo : w.heap.size ≤ K.EB ∧ K.gB < K.base ∧ K.fB < K.base ∧ K.mB < K.base ∧ K.EB < K.base ∧ K.eV < K.base ∧ w.heap.size ≤ K.base ∧ K.gB ≠ K.EB ∧ K.fB ≠ K.EB ∧ K.mB ≠ K.EB ∧ K.eV ≠ K.EB

section
variable {w wr : World} {K : KC} {gp fp RB n : Nat} {pref : Nat → List Nat} {E : Nat → Bool} {St : List Stp} {v : Value}

theorem Chs.keep (h : Chs w wr K gp fp RB n pref E St v) {wx : World} (hb : Below wr.heap.size wr wx) : Chs w wx K gp fp RB n pref E St v := by
  refine ⟨below_up h.below hb, (hb.block _ (blk_lt h.hg)).trans h.hg, (hb.block _ (blk_lt h.hf)).trans h.hf, (hb.block _ (blk_lt h.hm)).trans h.hm, (hb.block _ (blk_lt h.he)).trans h.he, h.eb.of_block (hb.block _ h.eb.lt), own_keep hb h.own, fun s hs => ?_, h.lo⟩
  obtain ⟨a, c, e, hh⟩ := h.ent s hs
  refine ⟨a, c, e, fun j hj => ?_⟩
  obtain ⟨b, o, h1, h2, h3, h4⟩ := hh j hj
  exact ⟨b, o, h1, h2, h3, cell_old hb h4⟩

/-- 'path = path[:len(path)-1]'. -/
theorem Chs.pop {S : List Stp} {s : Stp} {g cap : Nat} (h : Chs w wr K gp fp RB n pref E (S ++ [s]) (.slice (some ⟨g, 0, none⟩) (S.length + 1) cap)) : Chs w wr K gp fp RB n pref E S (.slice (some ⟨g, 0, none⟩) S.length cap) := by
  refine ⟨h.below, h.hg, h.hf, h.hm, h.he, h.eb, ?_, fun t ht => ?_, h.lo⟩
  · have := h.own
    rw [scs_append, List.length_append, List.length_singleton] at this
    exact own_shrink this (by rw [scs_one]; rfl)
  · obtain ⟨a, c, e, hh⟩ := h.ent t (by simp [ht])
    exact ⟨a, c, e, fun j hj => by obtain ⟨b, o, h1, h2, h3, h4⟩ := hh j hj; exact ⟨b, o, h1, h2, h3, h4⟩⟩

/-- 'last.tried++'. -/
theorem Chs.tried {S : List Stp} {x t g cap : Nat} {u : Value} (h : Chs w wr K gp fp RB n pref E (S ++ [(x, u, t)]) (.slice (some ⟨g, 0, none⟩) (S.length + 1) cap)) : Chs w (wr.setCell ⟨g, S.length * 3 + 2, none⟩ (.int .i64 ((t + 1 : Nat) : Int))) K gp fp RB n pref E (S ++ [(x, u, t + 1)]) (.slice (some ⟨g, 0, none⟩) (S.length + 1) cap) := by
  have hgb := (h.own.lt g rfl).1
  obtain ⟨q1, q2, q3, q4, q5, q6, q7, q8, q9, q10, q11⟩ := h.lo
  have hb : ∀ k, k ≠ g → (wr.setCell ⟨g, S.length * 3 + 2, none⟩ (.int .i64 ((t + 1 : Nat) : Int))).heap[k]? = wr.heap[k]? := fun k hk => blk_setCell_other _ _ _ _ (by simpa using hk)
  refine ⟨h.below.setCell (by simp; omega) _, (hb _ (by omega)).trans h.hg, (hb _ (by omega)).trans h.hf, (hb _ (by omega)).trans h.hm, (hb _ (by omega)).trans h.he, h.eb.of_block (hb _ (by omega)), ?_, fun s hs => ?_, h.lo⟩
  · have h1 := h.own
    have e1 : scs (S ++ [(x, u, t)]) = (scs S ++ [.int .i64 (x : Int), u]) ++ .int .i64 (t : Int) :: [] := by rw [scs_append, scs_one]; simp [sc]
    have e2 : scs (S ++ [(x, u, t + 1)]) = (scs S ++ [.int .i64 (x : Int), u]) ++ .int .i64 ((t + 1 : Nat) : Int) :: [] := by rw [scs_append, scs_one]; simp [sc]
    rw [e1, List.length_append, List.length_singleton] at h1
    rw [e2, List.length_append, List.length_singleton]
    have h2 := own_set h1 (.int .i64 ((t + 1 : Nat) : Int))
    have e3 : (scs S ++ [Value.int .i64 (x : Int), u]).length = S.length * 3 + 2 := by rw [List.length_append, scs_len]; rfl
    rw [e3] at h2
    exact h2
  · have hs' : ∃ s' ∈ S ++ [(x, u, t)], s'.1 = s.1 ∧ s'.2.1 = s.2.1 := by
      rcases List.mem_append.1 hs with h1 | h1
      · exact ⟨s, by simp [h1], rfl, rfl⟩
      · simp at h1; subst h1; exact ⟨(x, u, t), by simp, rfl, rfl⟩
    obtain ⟨s', hm, e1, e2⟩ := hs'
    obtain ⟨a, c, e, hh⟩ := h.ent s' hm
    rw [e1, e2] at e
    rw [e1] at hh
    refine ⟨a, c, e, fun j hj => ?_⟩
    obtain ⟨b, o, h1, h2, h3, h4⟩ := hh j hj
    refine ⟨b, o, h1, h2, h3, ?_⟩
    rw [World.cell?_setCell_other _ _ _ _ (fun e => by injection e with e1; exact h3 (by rw [e1]; rfl))]
    exact h4

/-- 'path = append(path, enter(x))'. -/
theorem Chs.push {g k cap : Nat} (h : Chs w wr K gp fp RB n pref E St (.slice (some ⟨g, 0, none⟩) k cap)) (x : Nat) {w1 w2 : World} {u : Value} {g2 cap2 : Nat} (hB : Below wr.heap.size (wr.setCell ⟨K.EB, x, none⟩ (.bool true)) w1)
    (hrow : Row w1 u (pref x).length (ints (pref x))) (hnew : ∀ y k c, u = .slice (some y) k c → wr.heap.size ≤ y.block)
    (ho : w2.ownsRow K.base 78 3 (.slice (some ⟨g2, 0, none⟩) (St.length + 1) cap2) (St.length + 1) (scs St ++ sc (x, u, 0))) (hgr : w1.grownBy w2 (some g)) (hat : some g = some g2 ∨ g2 = w1.heap.size + 1) :
    Chs w w2 K gp fp RB n pref (upd E x true) (St ++ [(x, u, 0)]) (.slice (some ⟨g2, 0, none⟩) (St.length + 1) cap2) := by
  have hgo := h.own.lt g rfl
  obtain ⟨q1, q2, q3, q4, q5, q6, q7, q8, q9, q10, q11⟩ := h.lo
  have hsz : wr.heap.size ≤ w1.heap.size := by have := hB.size; rw [nblk_setCell] at this; exact this
  have hblk : ∀ k, k < wr.heap.size → k ≠ K.EB → k ≠ g → w2.heap[k]? = wr.heap[k]? := fun k h1 h2 h3 => by
    rw [hgr.block k (by omega) (fun e => h3 (by injection e)), hB.block k h1, blk_setCell_other _ _ _ _ (by simpa using h2)]
  have hbE : w2.heap[K.EB]? = (wr.setCell ⟨K.EB, x, none⟩ (.bool true)).heap[K.EB]? := by
    rw [hgr.block K.EB (by have := h.eb.lt; omega) (fun e => by injection e; omega), hB.block K.EB h.eb.lt]
  have hbel : Below w.heap.size w w2 := by
    have h1 : Below w.heap.size w w1 := (h.below.setCell (by simpa using q1) _).trans (hB.mono h.below.size)
    exact below_grown h1 h1.size hgr (fun k hk => by injection hk; omega)
  refine ⟨hbel, (hblk _ (blk_lt h.hg) q8 (by omega)).trans h.hg, (hblk _ (blk_lt h.hf) q9 (by omega)).trans h.hf, (hblk _ (blk_lt h.hm) q10 (by omega)).trans h.hm, (hblk _ (blk_lt h.he) q11 (by omega)).trans h.he, ?_, ?_, fun s hs => ?_, h.lo⟩
  · refine ((h.eb.set x (.bool true)).congr fun i _ => ?_).of_block hbE
    by_cases e : i = x
    · subst e; simp [upd]
    · simp [upd, e]
  · rw [scs_append, scs_one, List.length_append, List.length_singleton]
    exact ho
  · rcases List.mem_append.1 hs with h1 | h1
    · obtain ⟨a, c, e, hh⟩ := h.ent s h1
      refine ⟨a, c, e, fun j hj => ?_⟩
      obtain ⟨b, o, r1, r2, r3, r4⟩ := hh j hj
      have hbl := lt_of_cell r4
      have hbg : b ≠ g := fun e => r3 (by rw [e]; rfl)
      refine ⟨b, o, r1, r2, fun e => ?_, (World.cell?_of_block (w := wr) (hblk b hbl r2 hbg)).trans r4⟩
      have e' : g2 = b := by injection e
      rcases hat with h2 | h2
      · injection h2 with h2; omega
      · omega
    · simp at h1
      subst h1
      obtain ⟨a, c, e, hh⟩ := hrow
      refine ⟨a, c, e, fun j hj => ?_⟩
      obtain ⟨b, o, r1, r2⟩ := hh j hj
      have hc := r2 j hj
      have hnb := hnew ⟨b, o, none⟩ _ _ (by rw [e, r1])
      have hbl := lt_of_cell hc
      refine ⟨b, o, r1, by have := h.eb.lt; show b ≠ K.EB; have h5 : wr.heap.size ≤ b := hnb; omega, fun e2 => ?_, ?_⟩
      · have e' : g2 = b := by injection e2
        have h5 : wr.heap.size ≤ b := hnb
        rcases hat with h2 | h2
        · injection h2 with h2; omega
        · omega
      · have h5 : wr.heap.size ≤ b := hnb
        rw [World.cell?_of_block (w := w1) (hgr.block b hbl (fun e => by injection e; omega)), hc]
        unfold ints
        rw [List.getD_eq_getElem?_getD, List.getElem?_eq_getElem hj]
        rfl
end

end Go.Proofs.YbulkectmFmt.A
