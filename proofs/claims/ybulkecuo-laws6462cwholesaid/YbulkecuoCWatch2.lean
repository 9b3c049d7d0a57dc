import Derived.Test.YbulkecuoCWatch
import Derived.Deep.OwnRows
namespace Go.Proofs.Ybulkecuo.C
open Go.RowKit Go.Deep

/-- The number of extra rollbacks behind the watch. -/
def wantv (vs : Int) (ch st : Bool) (ex : Int) : Int := if (vs == 3 || ch || st) = true then ex else wrap64 (ex + 1)

/-- All that was there is as it was, but for cell 57 of block Sb. -/
structure Kept (Sb : Nat) (w w' : World) : Prop where
  os : w'.os = w.os
  tape : w'.tape = w.tape
  output : w'.output = w.output
  size : w.heap.size ≤ w'.heap.size
  block : ∀ k, k < w.heap.size → k ≠ Sb → w'.heap[k]? = w.heap[k]?
  cells : ∀ o, o ≠ 57 → w'.cell? ⟨Sb, o, none⟩ = w.cell? ⟨Sb, o, none⟩
  frz : ∀ o, w'.frozen? ⟨Sb, o, none⟩ = w.frozen? ⟨Sb, o, none⟩

theorem kept_below {Sb : Nat} {w w1 : World} (hb : Below w.heap.size w w1) (hs : Sb < w.heap.size) : Kept Sb w w1 :=
  ⟨hb.os, hb.tape, hb.output, hb.size, fun k hk _ => hb.block k hk, fun _ _ => hb.cell (p := ⟨Sb, _, none⟩) hs, fun _ => hb.frozen (p := ⟨Sb, _, none⟩) hs⟩

theorem kept_set {Sb : Nat} {w w1 : World} (hb : Kept Sb w w1) (v : Value) : Kept Sb w (w1.setCell ⟨Sb, 57, none⟩ v) :=
  ⟨hb.os, hb.tape, hb.output, by rw [nblk_setCell]; exact hb.size, fun k hk hne => by rw [blk_setCell_other _ _ _ _ hne]; exact hb.block k hk hne,
    fun o ho => by rw [World.cell?_setCell_other _ _ _ _ (fun h => ho (by injection h with _ h2; exact h2.symm))]; exact hb.cells o ho, fun o => by rw [World.frozen?_setCell]; exact hb.frz o⟩

theorem watch_any (Sb V X : Nat) (vs ex : Int) (ch : Bool) (w : World) (c4 : w.cell? ⟨V, 4, none⟩ = some (.int .u8 vs)) (c1 : w.cell? ⟨V, 1, none⟩ = some (.pointer (some ⟨X, 0, none⟩))) (c7 : w.cell? ⟨X, 7, none⟩ = some (.bool ch))
    (c57 : w.cell? ⟨Sb, 57, none⟩ = some (.int .i64 ex)) (f57 : w.frozen? ⟨Sb, 57, none⟩ = false)
    (m base : Nat) (T Lf : Nat → Nat) (S : Nat → Int) (Bv : Nat → Value) (L : Nat → List Nat) (C k : Nat) (ix : Nat → Nat) (h : Known w m base T Lf S Bv L) (hT : ∀ i j, i < m → j < m → T i = T j → i = j)
    (hk : k ≤ 65536) (hix : ∀ j, j < k → ix j < m) (hc : ∀ j, j < k → w.cell? ⟨C, j * 3, none⟩ = some (.pointer (some ⟨Lf (ix j), 0, none⟩)) ∧ w.cell? ⟨C, j * 3 + 1, none⟩ = some (.int .i64 0) ∧ w.cell? ⟨C, j * 3 + 2, none⟩ = some (.int .i64 0)) :
    Calls Yba.prog 15 #[.pointer (some ⟨Sb, 0, none⟩), .slice (some ⟨C, 0, none⟩) k k, .pointer (some ⟨V, 0, none⟩)] w fun e w' => e = .returned (.tuple #[]) ∧ Kept Sb w w' ∧ w'.cell? ⟨Sb, 57, none⟩ = some (.int .i64 (wantv vs ch (standsTo S L ix k k) ex)) := by
  have hs := lt_of_cell c57
  by_cases h3 : vs = 3
  · subst h3
    refine (watch_ended Sb V _ w c4).mono ?_
    rintro e w' ⟨rfl, rfl⟩
    exact ⟨rfl, kept_below (Below.refl _ _) hs, by rw [c57]; simp [wantv]⟩
  · have h3' : (vs == 3) = false := by simpa using h3
    cases ch with
    | true =>
      refine (watch_chosen Sb V X _ vs w c4 h3' c1 c7).mono ?_
      rintro e w' ⟨rfl, rfl⟩
      exact ⟨rfl, kept_below (Below.refl _ _) hs, by rw [c57]; simp [wantv]⟩
    | false =>
      refine (watch_open Sb V X vs ex w c4 h3' c1 c7 c57 f57 m base T Lf S Bv L C k ix h hT hk hix hc).mono ?_
      rintro e w' ⟨rfl, w1, hb, rfl⟩
      cases hst : standsTo S L ix k k with
      | true => exact ⟨rfl, kept_below hb hs, by rw [show After true w1 Sb ex = w1 from rfl, cell_keep hb c57]; simp [wantv]⟩
      | false =>
        refine ⟨rfl, kept_set (kept_below hb hs) _, ?_⟩
        rw [show After false w1 Sb ex = w1.setCell ⟨Sb, 57, none⟩ (.int .i64 (wrap64 (ex + 1))) from rfl, World.cell?_setCell_same _ _ _ (cell_keep hb c57)]
        simp [wantv, h3']

end Go.Proofs.Ybulkecuo.C
