import Derived.Test.YbulkectmFmtAPrefP
import Derived.Test.YbulkectmFmtALay
namespace Go.Proofs.YbulkectmFmt.A
set_option linter.unusedVariables false
set_option linter.unusedSimpArgs false
open Go.Shelf Go.RowKit Go.Lib Go.Sort Go.Deep

theorem sortWorld_block {α : Type} [Inhabited α] (enc : α → Value) (w : World) (blk off m : Nat) (dk : Array α) (os : Array Obj) (k : Nat) (h1 : k ≠ blk) (h2 : k < w.heap.size) : (sortWorld enc w blk off m dk os).heap[k]? = w.heap[k]? := by
  show ((w.heap.modify blk (onCells (putCells enc off dk))) ++ os)[k]? = w.heap[k]?
  rw [Array.getElem?_append_left (by simpa using h2), Array.getElem?_modify]
  rw [if_neg (by omega)]
theorem sortWorld_size {α : Type} [Inhabited α] (enc : α → Value) (w : World) (blk off m : Nat) (dk : Array α) (os : Array Obj) : w.heap.size ≤ (sortWorld enc w blk off m dk os).heap.size := by
  show w.heap.size ≤ ((w.heap.modify blk (onCells (putCells enc off dk))) ++ os).size
  rw [Array.size_append, Array.size_modify]
  omega
theorem sortWorld_below {α : Type} [Inhabited α] (enc : α → Value) {w0 w : World} (hB : Go.RowKit.Below w0.heap.size w0 w) (blk off m : Nat) (dk : Array α) (os : Array Obj) (hb : w0.heap.size ≤ blk) : Go.RowKit.Below w0.heap.size w0 (sortWorld enc w blk off m dk os) :=
  ⟨hB.os, hB.tape, hB.output, Nat.le_trans hB.size (sortWorld_size ..), fun k hk => by rw [sortWorld_block enc w blk off m dk os k (by omega) (by have := hB.size; omega)]; exact hB.block k hk⟩

set_option maxRecDepth 100000 in
/-- slices.SortFunc with the law of preference. -/
theorem sort_any (w0 w : World) (M : GM) (D : GD) (hD : D.Ok) (hB : Go.RowKit.Below w0.heap.size w0 w) (hG : Gr w0 M D) (fp SD RK : Nat) (seed : Nat → Bool) (rank : Nat → Int) (hF : Fir w0 fp SD RK D.n seed rank)
    (gb fb : Nat) (hgb : w.cell? ⟨gb, 0, none⟩ = some (.pointer (some ⟨M.gp, 0, none⟩))) (hfb : w.cell? ⟨fb, 0, none⟩ = some (.pointer (some ⟨fp, 0, none⟩))) (blk cap : Nat) (hgn : gb ≠ blk) (hfn : fb ≠ blk) (L : List Nat) (hL : ∀ e ∈ L, e < D.m) (hne : L ≠ []) (hlen : L.length ≤ 2048)
    (base : Nat) (hrow : w.ownsRow base 3 1 (.slice (some ⟨blk, 0, none⟩) L.length cap) L.length (iv L)) (hlo : w0.heap.size ≤ blk) :
    Calls Ybaf.prog 23 #[.slice (some ⟨blk, 0, none⟩) L.length cap, .func (.func 24) #[] #[.pointer (some ⟨gb, 0, none⟩), .pointer (some ⟨fb, 0, none⟩)]] w fun e w' => (∃ u, e = .returned u) ∧ Go.RowKit.Below w0.heap.size w0 w' ∧ ∃ L' : List Nat, L'.Perm L ∧ (L'.Pairwise fun a b => ltE D rank b a = false) ∧ ∀ j (h : j < L'.length), w'.cell? ⟨blk, j, none⟩ = some (.int .i64 ((L'[j] : Nat) : Int)) := by
  have hx : ∃ x, x ∈ L := List.exists_mem_of_ne_nil L hne
  obtain ⟨x0, hx0⟩ := hx
  letI : Inhabited {e : Nat // e < D.m} := ⟨⟨x0, hL x0 hx0⟩⟩
  obtain ⟨d, hd⟩ : ∃ d : Array {e : Nat // e < D.m}, d.toList.map (·.1) = L := ⟨(L.attach.map fun e => ⟨e.1, hL e.1 e.2⟩).toArray, by simp⟩
  have hds : d.size = L.length := by rw [← hd]; simp
  have hblk : blk < w.heap.size := (hrow.lt blk rfl).2
  have hcell : ∀ j (h : j < L.length), w.cell? ⟨blk, j, none⟩ = some (.int .i64 ((L[j] : Nat) : Int)) ∧ w.frozen? ⟨blk, j, none⟩ = false := fun j h => by
    refine ⟨?_, ?_⟩
    · rw [hrow.cellAt j (by omega), iv_get h]
    · rcases hrow.2 with ⟨e, _⟩ | ⟨g, c, cur, e, _, hb, _⟩
      · cases e
      · cases e
        simp [World.frozen?, hb]
  have hdj : ∀ j, j < L.length → (d[j]!).1 = L.getD j 0 := fun j h => by
    have h1 : j < d.size := by omega
    rw [getElem!_pos d j h1]
    have : (d.toList.map (·.1))[j]? = L[j]? := by rw [hd]
    rw [List.getElem?_map, Array.getElem?_toList, Array.getElem?_eq_getElem h1, List.getElem?_eq_getElem h] at this
    simp at this
    rw [List.getD_eq_getElem?_getD, List.getElem?_eq_getElem h]
    exact this
  have hH : Holds (fun x : {e : Nat // e < D.m} => Value.int .i64 (x.1 : Int)) w blk 0 d := fun j hj => by
    have hj' : j < L.length := by omega
    have hc := hcell j hj'
    rw [Nat.zero_add]
    refine ⟨?_, hc.2⟩
    show w.cell? ⟨blk, j, none⟩ = some (Value.int .i64 (((d[j]!).1 : Nat) : Int))
    rw [hc.1, hdj j hj', List.getD_eq_getElem?_getD, List.getElem?_eq_getElem hj']
    rfl
  have hO : SWO (ltOf fun x y : {e : Nat // e < D.m} => cfE D rank x.1 y.1) := by
    have hl : ∀ x y : {e : Nat // e < D.m}, ltOf (fun x y : {e : Nat // e < D.m} => cfE D rank x.1 y.1) x y = ltE D rank x.1 y.1 := fun x y => rfl
    refine ⟨fun x => ?_, fun x y z h1 h2 => ?_, fun x y z h1 h2 => ?_⟩
    · rw [hl, ltE_false]; omega
    · rw [hl, ltE_iff] at *; omega
    · rw [hl, ltE_false] at *; omega
  have eg : ∀ args w, (callFunc 24 args).run Ybaf.prog w = .ok (.enter 24 args) w := enters_of Ybaf.func24 (by kernel_rfl) rfl
  have hcmp : CmpReads Ybaf.prog 24 #[.pointer (some ⟨gb, 0, none⟩), .pointer (some ⟨fb, 0, none⟩)] (fun x : {e : Nat // e < D.m} => Value.int .i64 (x.1 : Int)) (fun x y => cfE D rank x.1 y.1) blk 0 d.size w := by
    intro m os dk _ x y
    have hBW := sortWorld_below (fun x : {e : Nat // e < D.m} => Value.int .i64 (x.1 : Int)) hB blk 0 m dk os hlo
    exact cmp_any _ M D hD (hG.keep hBW) fp SD RK seed rank (hF.keep hBW) gb fb
      ((World.cell?_of_block (w := w) (sortWorld_block _ w blk 0 m dk os gb hgn (lt_of_cell hgb))).trans hgb) ((World.cell?_of_block (w := w) (sortWorld_block _ w blk 0 m dk os fb hfn (lt_of_cell hfb))).trans hfb) x.1 y.1 x.2 y.2
  have hcon := Any.slices_SortFunc Ybaf.sortL (fun x : {e : Nat // e < D.m} => Value.int .i64 (x.1 : Int)) (fun _ => rfl) (fun x y => cfE D rank x.1 y.1) hO 24 #[.pointer (some ⟨gb, 0, none⟩), .pointer (some ⟨fb, 0, none⟩)] blk 0 cap d w eg hcmp.lays hH hblk (by omega)
  rw [hds] at hcon
  change Calls Ybaf.prog 23 _ _ _ at hcon
  refine hcon.mono ?_
  rintro e w' ⟨rfl, d', n, os, hp, hs, rfl⟩
  have hsz : d'.size = d.size := hp.1
  have hperm : d'.toList.Perm d.toList := by
    have h3 := hp.2.2
    have e1 : d'.extract 0 L.length = d' := by rw [← hds, ← hsz]; exact Array.extract_size
    have e2 : d.extract 0 L.length = d := by rw [← hds]; exact Array.extract_size
    rw [e1, e2] at h3
    exact h3
  refine ⟨⟨_, rfl⟩, sortWorld_below _ hB blk 0 n d' os hlo, d'.toList.map (·.1), ?_, ?_, fun j h => ?_⟩
  · rw [← hd]; exact hperm.map _
  · rw [List.pairwise_map, List.pairwise_iff_getElem]
    intro i j hi hj hij
    have h1 : i < d'.size := by simpa using hi
    have h2 : j < d'.size := by simpa using hj
    have h3 := hs i j (Nat.zero_le _) hij (by omega)
    rw [getElem!_pos d' j h2, getElem!_pos d' i h1] at h3
    have h4 : ltE D rank (d'[j]).1 (d'[i]).1 = false := h3
    simpa using h4
  · have hj : j < d'.size := by simpa using h
    have hHd := holds_sortWorld (fun x : {e : Nat // e < D.m} => Value.int .i64 (x.1 : Int)) w blk 0 n d d' os hblk hH hsz
    have h4 := (hHd j hj).1
    rw [Nat.zero_add] at h4
    rw [h4, getElem!_pos d' j hj]
    simp

end Go.Proofs.YbulkectmFmt.A
