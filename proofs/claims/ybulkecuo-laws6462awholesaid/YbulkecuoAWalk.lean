import Derived.Test.YbulkecuoAClosed
import Derived.WalkKit
import Derived.WalkSpells
import Derived.WalkLawsBesides
namespace Go.Proofs.Ybulkecuo.A
open Go.Conc Go.RowKit

theorem bytes34 : ∃ i, Yba.prog.info? 34 = some i ∧ i.bytes = 0 := by
  have h : (Yba.prog.info? 34).map (·.bytes) = some 0 := by kernel_rfl
  obtain ⟨i, hi, hb⟩ := Option.map_eq_some_iff.1 h
  exact ⟨i, hi, hb⟩
theorem mk0 (w : World) : (Instr.makeChan 39 (.int .i64 0)).run Yba.prog w = .ok (.chan (some w.heap.size)) (w.alloc (.chan 0 #[] false 0 0 false)) := by
  obtain ⟨i, hi, hb⟩ := bytes34
  simpa using run_makeChan (P := Yba.prog) (w := w) Yba.underlying39 hi .i64 0 (by omega) (by rw [hb]; omega)
theorem mk1 (w : World) : (Instr.makeChan 39 (.int .i64 1)).run Yba.prog w = .ok (.chan (some w.heap.size)) (w.alloc (.chan 1 #[] false 0 0 false)) := by
  obtain ⟨i, hi, hb⟩ := bytes34
  simpa using run_makeChan (P := Yba.prog) (w := w) Yba.underlying39 hi .i64 1 (by omega) (by rw [hb]; omega)

theorem neq_chan (a b : Option Nat) (w : World) : (binOp .neq 39 (.chan a) (.chan b)).run Yba.prog w = .ok (.bool (!(a == b))) w := by
  have h : ∀ d : Nat, (Op.equalIn (d + 1) 39 (.chan a) (.chan b)).run Yba.prog w = .ok (a == b) w := fun d => by
    simp [Op.equalIn, run_underlying Yba.underlying39]
  simp only [binOp]
  simp [Op.equal, Op.maxDepth, h 9999]

structure Ended (w w' : World) (b : Nat) (s : Int) : Prop where
  below : Below b w w'
  st : w'.cell? ⟨b, 14, none⟩ = some (.int .u8 s)
  cells : ∀ o, o ≠ 14 → w'.cell? ⟨b, o, none⟩ = w.cell? ⟨b, o, none⟩

set_option maxRecDepth 100000 in
set_option maxHeartbeats 400000 in
theorem end_nil (b : Nat) (s : Int) (v : Value) (w : World) (h14 : w.cell? ⟨b, 14, none⟩ = some v) (hz : w.frozen? ⟨b, 14, none⟩ = false) (h17 : w.cell? ⟨b, 17, none⟩ = some (.chan none)) :
    Calls Yba.prog 6 #[.pointer (some ⟨b, 0, none⟩), .int .u8 s] w fun e w' => e = .returned (.tuple #[]) ∧ Ended w w' b s ∧ ∀ c, c ≠ b → w'.heap[c]? = w.heap[c]? := by
  have hnc : ∀ w : World, (binOp .neq 39 (.chan none) (.chan none)).run Yba.prog w = .ok (.bool false) w := fun w => neq_chan none none w
  go_enter Yba.func6, Yba.ntmps6
  go_wp2
  go_end0
  refine ⟨rfl, ⟨Below.setCell (Below.refl b w) (show b ≤ (⟨b, 14, none⟩ : Addr).block from Nat.le_refl _) _, World.cell?_setCell_same _ _ _ h14, fun o ho => World.cell?_setCell_other _ _ _ _ (fun h => ho (by injection h with _ h2; exact h2.symm))⟩, fun c hc => ?_⟩
  simp only [World.setCell, Array.getElem?_modify]
  rw [if_neg (by omega)]

set_option maxRecDepth 100000 in
set_option maxHeartbeats 400000 in
theorem end_some (b : Nat) (s : Int) (v : Value) (c cap sn r : Nat) (tm : Bool) (w : World) (h14 : w.cell? ⟨b, 14, none⟩ = some v) (hz : w.frozen? ⟨b, 14, none⟩ = false) (h17 : w.cell? ⟨b, 17, none⟩ = some (.chan (some c)))
    (hbc : b < c) (hc : w.heap[c]? = some (.chan cap #[] false sn r tm)) :
    Calls Yba.prog 6 #[.pointer (some ⟨b, 0, none⟩), .int .u8 s] w fun e w' => e = .returned (.tuple #[]) ∧ Ended w w' b s ∧ w'.heap[c]? = some (.chan cap #[] true sn r tm) ∧ ∀ c', c' ≠ b → c' ≠ c → w'.heap[c']? = w.heap[c']? := by
  have hnc : ∀ w : World, (binOp .neq 39 (.chan (some c)) (.chan none)).run Yba.prog w = .ok (.bool true) w := fun w => neq_chan (some c) none w
  have hc1 : (w.setCell ⟨b, 14, none⟩ (.int .u8 s)).heap[c]? = some (.chan cap #[] false sn r tm) := by
    simp only [World.setCell, Array.getElem?_modify]
    rw [if_neg (by omega), hc]
  have hcl := fun ats ty => run_close_open (P := Yba.prog) ats ty hc1
  have hlt : c < w.heap.size := (Array.getElem?_eq_some_iff.1 hc).1
  go_enter Yba.func6, Yba.ntmps6
  go_wp2
  go_end0
  have e0 : ∀ k, k ≠ c → ({ heap := (w.setCell ⟨b, 14, none⟩ (.int .u8 s)).heap.setIfInBounds c (.chan cap #[] true sn r tm), tape := w.tape, drawn := w.drawn, os := (w.setCell ⟨b, 14, none⟩ (.int .u8 s)).os, output := (w.setCell ⟨b, 14, none⟩ (.int .u8 s)).output } : World).heap[k]? = (w.setCell ⟨b, 14, none⟩ (.int .u8 s)).heap[k]? := fun k hk => Array.getElem?_setIfInBounds_ne (fun h => hk h.symm)
  have e1 : ∀ k, k ≠ b → (w.setCell ⟨b, 14, none⟩ (.int .u8 s)).heap[k]? = w.heap[k]? := fun k hk => by
    simp only [World.setCell, Array.getElem?_modify]
    rw [if_neg (by omega)]
  have e2 : ∀ o, ({ heap := (w.setCell ⟨b, 14, none⟩ (.int .u8 s)).heap.setIfInBounds c (.chan cap #[] true sn r tm), tape := w.tape, drawn := w.drawn, os := (w.setCell ⟨b, 14, none⟩ (.int .u8 s)).os, output := (w.setCell ⟨b, 14, none⟩ (.int .u8 s)).output } : World).cell? ⟨b, o, none⟩ = (w.setCell ⟨b, 14, none⟩ (.int .u8 s)).cell? ⟨b, o, none⟩ := fun o => by
    have := e0 b (by omega)
    simp only [World.cell?]
    rw [this]
  refine ⟨rfl, ⟨⟨rfl, rfl, rfl, by simp [World.setCell], fun k hk => (e0 k (by omega)).trans (e1 k (by omega))⟩, (e2 14).trans (World.cell?_setCell_same _ _ _ h14), fun o ho => (e2 o).trans (World.cell?_setCell_other _ _ _ _ (fun h => ho (by injection h with _ h2; exact h2.symm)))⟩, ?_, fun c' h1 h2 => (e0 c' h2).trans (e1 c' h1)⟩
  simp [World.setCell, hlt]

end Go.Proofs.Ybulkecuo.A
