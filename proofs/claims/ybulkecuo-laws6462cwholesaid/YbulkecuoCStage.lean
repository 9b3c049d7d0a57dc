import Derived.Test.YbulkecuoCModel
import Derived.Test.YbulkecuoCWatch
import Derived.Deep.OwnRows
import Derived.Deep.RegionHeld3
import Derived.Deep.AppendLies
namespace Go.Proofs.Ybulkecuo.C
open Go.RowKit

/-- A slice of integers that came in: its cells. -/
def Came (k : IntKind) (w : World) (a : Option Addr) (len : Nat) (z : Nat → Int) : Prop :=
  ∀ i, i < len → ∃ b off, a = some ⟨b, off, none⟩ ∧ ∀ j, j < len → w.cell? ⟨b, off + j, none⟩ = some (.int k (z j))

theorem info90 : (Yba.prog.info? 90).map (fun i => (i.zero, i.size, i.bytes)) = some (some (.int .u8 0), 1, 1) := by kernel_rfl
theorem info47 : (Yba.prog.info? 47).map (fun i => (i.zero, i.size, i.bytes)) = some (some (.pointer none), 1, 8) := by kernel_rfl
theorem info93 : (Yba.prog.info? 93).map (fun i => (i.zero, i.size, i.bytes)) = some (some (.pointer none), 1, 8) := by kernel_rfl
theorem info126 : (Yba.prog.info? 126).map (fun i => (i.zero, i.size, i.bytes)) = some (some (.slice none 0 0), 1, 24) := by kernel_rfl
theorem info4 : (Yba.prog.info? 4).map (fun i => (i.zero, i.size, i.bytes)) = some (some (.bool false), 1, 1) := by kernel_rfl
theorem info3 : (Yba.prog.info? 3).map (fun i => (i.zero, i.size, i.bytes)) = some (some (.int .i64 0), 1, 8) := by kernel_rfl

/-- The states, as far as the first loop has come. -/
def stTo (z : Nat → Int) (k i : Nat) : Int := if i < k then z i % 4 else 0

theorem st_step {wr : World} {N M k : Nat} {z : Nat → Int} (h : wr.rowIs N 90 M (fun i => .int .u8 (stTo z k i))) : (wr.setCell ⟨N, k, none⟩ (.int .u8 (z k % 4))).rowIs N 90 M (fun i => .int .u8 (stTo z (k + 1) i)) := by
  refine (h.set k _).congr fun i _ => ?_
  by_cases e : i = k
  · subst e; simp [stTo]
  · simp only [if_neg e, stTo]
    by_cases h1 : i < k
    · rw [if_pos h1, if_pos (by omega)]
    · rw [if_neg h1, if_neg (by omega)]

def txn0 : Array Value := #[.string ⟨#[]⟩, .int .i64 0, .slice none 0 0, .int .i64 0, .pointer none, .pointer none, .nilIface, .bool false, .slice none 0 0, .slice none 0 0, .slice none 0 0, .slice none 0 0, .int .u64 0]
def life0 (t : Nat) (s : Int) : Array Value := #[.pointer none, .pointer (some ⟨t, 0, none⟩), .int .i64 0, .int .i64 0, .int .u8 s, .int .i64 0, .nilIface, .int .i64 0, .int .i64 0, .int .i64 0, .int .i64 0, .string ⟨#[]⟩, .bool false, .bool false, .slice none 0 0, .map none, .int .i64 0, .slice none 0 0, .map none, .int .i64 0, .slice none 0 0, .map none, .int .i64 0, .slice none 0 0, .map none, .int .i64 0, .slice none 0 0, .slice none 0 0, .slice none 0 0, .slice none 0 0, .bool false, .slice none 0 0, .int .i64 0, .int .u32 0, .int .i64 0, .int .i64 0, .slice none 0 0, .map none, .int .i64 0, .slice none 0 0, .int .i64 0, .bool false, .bool false, .bool false, .int .i64 0, .pointer none, .slice none 0 0, .map none, .int .i64 0, .slice none 0 0, .map none, .int .i64 0, .pointer none]

/-- The making of a life, kept shut: the walk is not to lay its 53 cells open. -/
def bld125 (X : Array (Nat × Value)) : Sem Value := Instr.build 125 X
theorem to125 (X : Array (Nat × Value)) : Instr.build 125 X = bld125 X := rfl
theorem bd125 (t : Nat) (s : Int) (w : World) : (bld125 #[(1, .pointer (some ⟨t, 0, none⟩)), (4, .int .u8 s)]).run Yba.prog w = .ok (.agg (life0 t s)) w := run_build w 125 #[(1, .pointer (some ⟨t, 0, none⟩)), (4, .int .u8 s)] (life0 t s) (by kernel_rfl)
attribute [local go_sem ↓] to125

/-- The tables of the second loop, k rounds behind it. -/
structure Stage2 (w wr : World) (N1 N2 N3 B M k : Nat) (S : Nat → Int) : Prop where
  size : wr.heap.size = B + 3 * k
  below : Below w.heap.size w wr
  st : wr.rowIs w.heap.size 90 M (fun i => .int .u8 (S i))
  tx : wr.rowIs N1 47 M (fun i => if i < k then P (B + 3 * i) else .pointer none)
  lv : wr.rowIs N2 93 M (fun i => if i < k then P (B + 3 * i + 1) else .pointer none)
  aj : wr.rowIs N3 126 M (fun i => if i < k then .slice (some ⟨B + 3 * i + 1 + 1, 0, none⟩) M M else .slice none 0 0)
  txs : ∀ i, i < k → wr.heap[B + 3 * i]? = some (.cells txn0 33 (0, 0))
  lvs : ∀ i, i < k → wr.heap[B + 3 * i + 1]? = some (.cells (life0 (B + 3 * i) (S i)) 125 (0, 0))
  ads : ∀ i, i < k → wr.rowIs (B + 3 * i + 1 + 1) 4 M (fun _ => .bool false)

section
open Go.Deep
variable {w wr : World} {N1 N2 N3 B M k : Nat} {S : Nat → Int}

theorem st2_w1 (h : Stage2 w wr N1 N2 N3 B M k S) (L1 : w.heap.size < N1) (L2 : N1 < N2) (L3 : N2 < N3) (hk : k < M) :
    ∀ W1, W1 = (wr.setCell ⟨N1, k, none⟩ (P wr.heap.size)).alloc (.cells txn0 33) →
      W1.heap.size = wr.heap.size + 1 ∧ W1.cell? ⟨N1, k, none⟩ = some (P wr.heap.size) ∧ W1.cell? ⟨w.heap.size, k, none⟩ = some (.int .u8 (S k)) ∧ W1.cell? ⟨N2, k, none⟩ = some (.pointer none) ∧ W1.frozen? ⟨N2, k, none⟩ = false ∧
      W1.cell? ⟨N3, k, none⟩ = some (.slice none 0 0) ∧ W1.frozen? ⟨N3, k, none⟩ = false := by
  intro W1 hW1
  have r1 := (h.tx.set k (P wr.heap.size)).alloc (.cells txn0 33)
  have r0 := (h.st.setOther (a := ⟨N1, k, none⟩) (by simp; omega) (P wr.heap.size)).alloc (.cells txn0 33)
  have r2 := (h.lv.setOther (a := ⟨N1, k, none⟩) (by simp; omega) (P wr.heap.size)).alloc (.cells txn0 33)
  have r3 := (h.aj.setOther (a := ⟨N1, k, none⟩) (by simp; omega) (P wr.heap.size)).alloc (.cells txn0 33)
  rw [← hW1] at r0 r1 r2 r3
  refine ⟨by rw [hW1, nblk_alloc, nblk_setCell], ?_, ?_, ?_, r2.frozen k, ?_, r3.frozen k⟩
  · rw [r1.cell hk]; simp
  · rw [r0.cell hk]
  · rw [r2.cell hk]; simp
  · rw [r3.cell hk]; simp

theorem st2_step (h : Stage2 w wr N1 N2 N3 B M k S) (L1 : w.heap.size < N1) (L2 : N1 < N2) (L3 : N2 < N3) (L4 : N3 < B) :
    ∀ W1, W1 = (wr.setCell ⟨N1, k, none⟩ (P wr.heap.size)).alloc (.cells txn0 33) →
      Stage2 w ((((W1.setCell ⟨N2, k, none⟩ (.pointer (some ⟨W1.heap.size, 0, none⟩))).setCell ⟨N3, k, none⟩ (.slice (some ⟨W1.heap.size + 1, 0, none⟩) M M)).alloc (.cells (life0 wr.heap.size (S k)) 125)).alloc (.cells (madeCells #[.bool false] M) 4)).drew N1 N2 N3 B M (k + 1) S := by
  intro W1 hW1
  have hsz := h.size
  have hs1 : W1.heap.size = wr.heap.size + 1 := by rw [hW1, nblk_alloc, nblk_setCell]
  have e1 : B + 3 * k = wr.heap.size := by omega
  have e2 : wr.heap.size + 1 = W1.heap.size := hs1.symm
  -- an old block that is none of the three tables
  have old : ∀ b, b < wr.heap.size → b ≠ N1 → b ≠ N2 → b ≠ N3 → ((((W1.setCell ⟨N2, k, none⟩ (.pointer (some ⟨W1.heap.size, 0, none⟩))).setCell ⟨N3, k, none⟩ (.slice (some ⟨W1.heap.size + 1, 0, none⟩) M M)).alloc (.cells (life0 wr.heap.size (S k)) 125)).alloc (.cells (madeCells #[.bool false] M) 4)).heap[b]? = wr.heap[b]? := by
    intro b hb h1 h2 h3
    rw [blk_alloc_lt _ _ _ (by rw [nblk_alloc, nblk_setCell, nblk_setCell]; omega), blk_alloc_lt _ _ _ (by rw [nblk_setCell, nblk_setCell]; omega), blk_setCell_other _ _ _ _ h3, blk_setCell_other _ _ _ _ h2, hW1,
      blk_alloc_lt _ _ _ (by rw [nblk_setCell]; omega), blk_setCell_other _ _ _ _ h1]
  have r0 : W1.rowIs w.heap.size 90 M (fun i => .int .u8 (S i)) := by rw [hW1]; exact (h.st.setOther (a := ⟨N1, k, none⟩) (by simp; omega) _).alloc _
  have r1 : W1.rowIs N1 47 M (fun i => if i < k + 1 then P (B + 3 * i) else .pointer none) := by
    rw [hW1]
    refine ((h.tx.set k (P wr.heap.size)).alloc _).congr fun i _ => ?_
    by_cases e : i = k
    · subst e; simp [e1]
    · by_cases h1 : i < k
      · simp [e, h1, show i < k + 1 from by omega]
      · simp [e, h1, show ¬ i < k + 1 from by omega]
  have r2 : W1.rowIs N2 93 M (fun i => if i < k then P (B + 3 * i + 1) else .pointer none) := by rw [hW1]; exact (h.lv.setOther (a := ⟨N1, k, none⟩) (by simp; omega) _).alloc _
  have r3 : W1.rowIs N3 126 M (fun i => if i < k then .slice (some ⟨B + 3 * i + 1 + 1, 0, none⟩) M M else .slice none 0 0) := by rw [hW1]; exact (h.aj.setOther (a := ⟨N1, k, none⟩) (by simp; omega) _).alloc _
  refine ⟨?_, ?_, ?_, ?_, ?_, ?_, ?_, ?_, ?_⟩
  · show ((((W1.setCell _ _).setCell _ _).alloc _).alloc _).heap.size = _
    rw [nblk_alloc, nblk_alloc, nblk_setCell, nblk_setCell]; omega
  · refine Below.drew (Below.alloc (Below.alloc (Below.setCell (Below.setCell ?_ (by simp; omega) _) (by simp; omega) _) ?_ _) ?_ _)
    · rw [hW1]
      exact Below.alloc (Below.setCell h.below (by simp; omega) _) (by rw [nblk_setCell]; omega) _
    · rw [nblk_setCell, nblk_setCell]; omega
    · rw [nblk_alloc, nblk_setCell, nblk_setCell]; omega
  · exact ((((r0.setOther (a := ⟨N2, k, none⟩) (by simp; omega) _).setOther (a := ⟨N3, k, none⟩) (by simp; omega) _).alloc _).alloc _).drew
  · exact ((((r1.setOther (a := ⟨N2, k, none⟩) (by simp; omega) _).setOther (a := ⟨N3, k, none⟩) (by simp; omega) _).alloc _).alloc _).drew
  · refine (((((r2.set k (.pointer (some ⟨W1.heap.size, 0, none⟩))).setOther (a := ⟨N3, k, none⟩) (by simp; omega) _).alloc _).alloc _).drew).congr fun i _ => ?_
    by_cases e : i = k
    · subst e; simp [e1, e2, P]
    · by_cases h1 : i < k
      · simp [e, h1, show i < k + 1 from by omega]
      · simp [e, h1, show ¬ i < k + 1 from by omega]
  · refine ((((((r3.setOther (a := ⟨N2, k, none⟩) (by simp; omega) _).set k _).alloc _).alloc _).drew)).congr fun i _ => ?_
    by_cases e : i = k
    · subst e; simp [e1, e2]
    · by_cases h1 : i < k
      · simp [e, h1, show i < k + 1 from by omega]
      · simp [e, h1, show ¬ i < k + 1 from by omega]
  · intro i hi
    show ((((W1.setCell _ _).setCell _ _).alloc _).alloc _).heap[_]? = _
    by_cases e : i = k
    · subst e
      rw [blk_alloc_lt _ _ _ (by rw [nblk_alloc, nblk_setCell, nblk_setCell]; omega), blk_alloc_lt _ _ _ (by rw [nblk_setCell, nblk_setCell]; omega), blk_setCell_other _ _ _ _ (by simp; omega), blk_setCell_other _ _ _ _ (by simp; omega), hW1, e1]
      have := blk_alloc_new (wr.setCell ⟨N1, i, none⟩ (P wr.heap.size)) (.cells txn0 33)
      rw [nblk_setCell] at this
      exact this
    · rw [old _ (by omega) (by omega) (by omega) (by omega)]
      exact h.txs i (by omega)
  · intro i hi
    show ((((W1.setCell _ _).setCell _ _).alloc _).alloc _).heap[_]? = _
    by_cases e : i = k
    · subst e
      rw [blk_alloc_lt _ _ _ (by rw [nblk_alloc, nblk_setCell, nblk_setCell]; omega), e1, e2]
      have := blk_alloc_new ((W1.setCell ⟨N2, i, none⟩ (.pointer (some ⟨W1.heap.size, 0, none⟩))).setCell ⟨N3, i, none⟩ (.slice (some ⟨W1.heap.size + 1, 0, none⟩) M M)) (.cells (life0 wr.heap.size (S i)) 125)
      rw [nblk_setCell, nblk_setCell] at this
      exact this
    · rw [old _ (by omega) (by omega) (by omega) (by omega)]
      exact h.lvs i (by omega)
  · intro i hi
    by_cases e : i = k
    · subst e
      have := World.rowIs_made (((W1.setCell ⟨N2, i, none⟩ (.pointer (some ⟨W1.heap.size, 0, none⟩))).setCell ⟨N3, i, none⟩ (.slice (some ⟨W1.heap.size + 1, 0, none⟩) M M)).alloc (.cells (life0 wr.heap.size (S i)) 125)) (.bool false) M 4
      rw [nblk_alloc, nblk_setCell, nblk_setCell] at this
      rw [e1, e2]
      exact this
    · exact (h.ads i (by omega)).of_block (old _ (by omega) (by omega) (by omega) (by omega))

theorem st2_zero (hst : wr.rowIs w.heap.size 90 M (fun i => .int .u8 (S i))) (hb : Below w.heap.size w wr) (e1 : wr.heap.size = N1) (e2 : N2 = N1 + 1) (e3 : N3 = N2 + 1) :
    Stage2 w (((wr.alloc (.cells (madeCells #[.pointer none] M) 47)).alloc (.cells (madeCells #[.pointer none] M) 93)).alloc (.cells (madeCells #[.slice none 0 0] M) 126)) N1 N2 N3 (N3 + 1) M 0 S := by
  have hsz := hb.size
  refine ⟨?_, ?_, ((hst.alloc _).alloc _).alloc _, ?_, ?_, ?_, fun i hi => by omega, fun i hi => by omega, fun i hi => by omega⟩
  · rw [nblk_alloc, nblk_alloc, nblk_alloc]; omega
  · exact Below.alloc (Below.alloc (Below.alloc hb hsz _) (by rw [nblk_alloc]; omega) _) (by rw [nblk_alloc, nblk_alloc]; omega) _
  · have := ((World.rowIs_made wr (.pointer none) M 47).alloc (.cells (madeCells #[.pointer none] M) 93)).alloc (.cells (madeCells #[.slice none 0 0] M) 126)
    rw [e1] at this
    exact this.congr fun i _ => by simp
  · have := (World.rowIs_made (wr.alloc (.cells (madeCells #[.pointer none] M) 47)) (.pointer none) M 93).alloc (.cells (madeCells #[.slice none 0 0] M) 126)
    rw [nblk_alloc, e1, ← e2] at this
    exact this.congr fun i _ => by simp
  · have := World.rowIs_made ((wr.alloc (.cells (madeCells #[.pointer none] M) 47)).alloc (.cells (madeCells #[.pointer none] M) 93)) (.slice none 0 0) M 126
    rw [nblk_alloc, nblk_alloc, e1, ← e2, ← e3] at this
    exact this.congr fun i _ => by simp
end

/-- The tables of the third loop: the edges read so far stand in the blockers and in the matrix alike. -/
structure Stage3 (w wr : World) (N1 N2 N3 B M kk : Nat) (S : Nat → Int) (Bv : Nat → Value) (L : Nat → List Nat) : Prop where
  size : B + 3 * M ≤ wr.heap.size
  below : Below w.heap.size w wr
  st : wr.rowIs w.heap.size 90 M (fun i => .int .u8 (S i))
  tx : wr.rowIs N1 47 M (fun i => P (B + 3 * i))
  lv : wr.rowIs N2 93 M (fun i => P (B + 3 * i + 1))
  aj : wr.rowIs N3 126 M (fun i => .slice (some ⟨B + 3 * i + 1 + 1, 0, none⟩) M M)
  txs : ∀ i, i < M → wr.rowIs (B + 3 * i) 33 13 (fun q => if q = 8 then Bv i else txn0.getD q undef)
  lvs : ∀ i, i < M → wr.heap[B + 3 * i + 1]? = some (.cells (life0 (B + 3 * i) (S i)) 125 (0, 0))
  ads : ∀ i, i < M → wr.rowIs (B + 3 * i + 1 + 1) 4 M (fun j => .bool (decide (j ∈ L i)))
  own : ∀ i, i < M → wr.ownsRow (B + 3 * M) 47 1 (Bv i) (L i).length (((L i).map fun q => B + 3 * q).map P)
  dis : ∀ i j, i < M → j < M → i ≠ j → (Bv i).ownBlock = none ∨ (Bv i).ownBlock ≠ (Bv j).ownBlock
  llt : ∀ i, i < M → ∀ q ∈ L i, q < M
  len : ∀ i, i < M → (L i).length ≤ kk

section
open Go.Deep
variable {w wr : World} {N1 N2 N3 B M kk : Nat} {S : Nat → Int} {Bv : Nat → Value} {L : Nat → List Nat}

theorem st3_zero (h : Stage2 w wr N1 N2 N3 B M M S) : Stage3 w wr N1 N2 N3 B M 0 S (fun _ => .slice none 0 0) (fun _ => []) := by
  refine ⟨by have := h.size; omega, h.below, h.st, h.tx.congr fun i hi => by simp [hi], h.lv.congr fun i hi => by simp [hi], h.aj.congr fun i hi => by simp [hi], fun i hi => ?_, h.lvs, fun i hi => (h.ads i hi).congr fun j _ => by simp, fun i hi => ?_, fun i j _ _ _ => .inl rfl, (fun i _ q hq => absurd hq (by simp)), fun i _ => Nat.le_refl _⟩
  · refine ⟨txn0, h.txs i hi, rfl, fun q hq => ?_⟩
    match q, hq with
    | 0, _ | 1, _ | 2, _ | 3, _ | 4, _ | 5, _ | 6, _ | 7, _ | 8, _ | 9, _ | 10, _ | 11, _ | 12, _ => rfl
    | q + 13, hq => omega
  · exact ⟨rfl, .inl ⟨rfl, rfl⟩⟩

/-- One edge a -> b more. -/
theorem st3_step (h : Stage3 w wr N1 N2 N3 B M kk S Bv L) (L1 : w.heap.size < N1) (L2 : N1 < N2) (L3 : N2 < N3) (L4 : N3 < B) (a b : Nat) (ha : a < M) (hb : b < M) (w1 : World) (g cap : Nat)
    (hown : w1.ownsRow (B + 3 * M) 47 1 (.slice (some ⟨g, 0, none⟩) ((L a).length + 1) cap) ((L a).length + 1) ((((L a).map fun q => B + 3 * q).map P) ++ [P (B + 3 * b)]))
    (hgrow : (wr.alloc (.cells #[P (B + 3 * b)] 47)).grownBy w1 (Bv a).ownBlock) (hat : (Bv a).ownBlock = some g ∨ g = wr.heap.size + 1) :
    Stage3 w ((w1.setCell ⟨B + 3 * a, 8, none⟩ (.slice (some ⟨g, 0, none⟩) ((L a).length + 1) cap)).setCell ⟨B + 3 * a + 1 + 1, b, none⟩ (.bool true)) N1 N2 N3 B M (kk + 1) S
      (fun i => if i = a then .slice (some ⟨g, 0, none⟩) ((L a).length + 1) cap else Bv i) (fun i => if i = a then L a ++ [b] else L i) := by
  have hsz := h.size
  have hlow : ∀ x, x < B + 3 * M → w1.heap[x]? = wr.heap[x]? := fun x hx => by
    rw [hgrow.block x (by rw [nblk_alloc]; omega) (fun e => by have := (h.own a ha).lt x e.symm; omega), blk_alloc_lt _ _ _ (by omega)]
  have hsz1 : wr.heap.size + 1 ≤ w1.heap.size := by have := hgrow.size; rw [nblk_alloc] at this; exact this
  have keep : ∀ x, x < B + 3 * M → x ≠ B + 3 * a → x ≠ B + 3 * a + 1 + 1 → ((w1.setCell ⟨B + 3 * a, 8, none⟩ (.slice (some ⟨g, 0, none⟩) ((L a).length + 1) cap)).setCell ⟨B + 3 * a + 1 + 1, b, none⟩ (.bool true)).heap[x]? = wr.heap[x]? := fun x hx h1 h2 => by
    rw [blk_setCell_other _ _ _ _ h2, blk_setCell_other _ _ _ _ h1, hlow x hx]
  have hB : w.heap.size ≤ wr.heap.size := h.below.size
  refine ⟨?_, ?_, h.st.of_block (keep _ (by omega) (by omega) (by omega)), h.tx.of_block (keep _ (by omega) (by omega) (by omega)), h.lv.of_block (keep _ (by omega) (by omega) (by omega)), h.aj.of_block (keep _ (by omega) (by omega) (by omega)), ?_, ?_, ?_, ?_, ?_, ?_, ?_⟩
  · rw [nblk_setCell, nblk_setCell]; omega
  · refine Below.setCell (Below.setCell ?_ (by simp; omega) _) (by simp; omega) _
    exact Below.grown (Below.alloc h.below hB _) hgrow (by rw [nblk_alloc]; omega) (fun k hk => by have := (h.own a ha).lt k hk; omega)
  · intro i hi
    by_cases e : i = a
    · subst e
      refine (((h.txs i hi).of_block (hlow _ (by omega))).set 8 (.slice (some ⟨g, 0, none⟩) ((L i).length + 1) cap)).setOther (a := ⟨B + 3 * i + 1 + 1, b, none⟩) (by simp; omega) (.bool true) |>.congr fun q _ => ?_
      by_cases e8 : q = 8 <;> simp [e8]
    · refine ((h.txs i hi).of_block (keep _ (by omega) (by omega) (by omega))).congr fun q _ => ?_
      simp [e]
  · intro i hi
    rw [keep _ (by omega) (by omega) (by omega)]
    exact h.lvs i hi
  · intro i hi
    by_cases e : i = a
    · subst e
      refine ((((h.ads i hi).of_block (hlow _ (by omega))).setOther (a := ⟨B + 3 * i, 8, none⟩) (by simp; omega) _).set b (.bool true)).congr fun j _ => ?_
      by_cases ej : j = b
      · simp [ej]
      · simp [ej]
    · refine ((h.ads i hi).of_block (keep _ (by omega) (by omega) (by omega))).congr fun j _ => ?_
      simp [e]
  · intro i hi
    have hset : ∀ {v : Value} {n : Nat} {xs : List Value}, w1.ownsRow (B + 3 * M) 47 1 v n xs → ((w1.setCell ⟨B + 3 * a, 8, none⟩ (.slice (some ⟨g, 0, none⟩) ((L a).length + 1) cap)).setCell ⟨B + 3 * a + 1 + 1, b, none⟩ (.bool true)).ownsRow (B + 3 * M) 47 1 v n xs := fun {v n xs} ho => by
      refine ⟨ho.1, ?_⟩
      rcases ho.2 with hn | ⟨g', cap', cur, hv, hb', hg', rest⟩
      · exact .inl hn
      · exact .inr ⟨g', cap', cur, hv, hb', by rw [blk_setCell_other _ _ _ _ (by simp; omega), blk_setCell_other _ _ _ _ (by simp; omega)]; exact hg', rest⟩
    by_cases e : i = a
    · subst e
      have := hset hown
      simpa using this
    · have := hset (((h.own i hi).alloc (.cells #[P (B + 3 * b)] 47)).kept hgrow (h.dis i a hi ha e))
      simpa [e] using this
  · intro i j hi hj hij
    by_cases ei : i = a
    · subst ei
      have ej : ¬ j = i := fun e => hij e.symm
      right
      simp only [if_pos, if_neg ej]
      intro e
      have e' : (Bv j).ownBlock = some g := by rw [← e]; rfl
      have hjl := (h.own j hj).lt g e'
      rcases hat with hat | hat
      · rcases h.dis j i hj hi ej with h0 | h0
        · rw [e'] at h0; cases h0
        · exact h0 (by rw [e', hat])
      · omega
    · by_cases ej : j = a
      · subst ej
        simp only [if_neg ei, if_pos]
        rcases hbi : (Bv i).ownBlock with _ | x
        · exact .inl rfl
        · right
          intro e
          have e' : x = g := by simpa [Value.ownBlock] using e
          subst e'
          have hil := (h.own i hi).lt x hbi
          rcases hat with hat | hat
          · rcases h.dis i j hi hj ei with h0 | h0
            · rw [hbi] at h0; cases h0
            · exact h0 (by rw [hbi, hat])
          · omega
      · simp only [if_neg ei, if_neg ej]
        exact h.dis i j hi hj hij
  · intro i hi q hq
    by_cases e : i = a
    · subst e
      simp at hq
      rcases hq with hq | hq
      · exact h.llt i hi q hq
      · omega
    · simp only [if_neg e] at hq
      exact h.llt i hi q hq
  · intro i hi
    by_cases e : i = a
    · subst e
      have := h.len i hi
      simp
      omega
    · have := h.len i hi
      simp only [if_neg e]
      omega
end

end Go.Proofs.Ybulkecuo.C
