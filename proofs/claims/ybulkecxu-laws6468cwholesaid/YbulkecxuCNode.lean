import Derived.Test.YbulkecxuCLoop2
namespace Go.Proofs.Ybulkecxu.C
set_option linter.unusedVariables false
set_option linter.unusedSimpArgs false
open Go.RowKit Go.Deep

/-- The cells of '&Node{}'. -/
def node0F (P : Program) : Array Value := (P.built 47 []).getD #[]
def bld47 (X : Array (Nat × Value)) : Sem Value := Instr.build 47 X
theorem toB47 (X : Array (Nat × Value)) : Instr.build 47 X = bld47 X := rfl
theorem bd47 (w : World) : (bld47 #[]).run Yba.prog w = .ok (.agg (node0F Yba.prog)) w := run_build w 47 #[] (node0F Yba.prog) (by kernel_rfl)
theorem node0_size : (node0F Yba.prog).size = 3455 := by kernel_rfl
theorem node0_fin : ((node0F Yba.prog).toList.drop 24).take 3360 = flat (fun _ => zeroM) 160 := by kernel_rfl

def fin0F (P : Program) : Array Value := (((P.info? 37).bind (·.zero)).getD (.agg #[])).cells
theorem fin0_size : (fin0F Yba.prog).size = 3360 := by kernel_rfl
theorem info37 : (Yba.prog.info? 37).map (·.zero) = some (some (.agg (fin0F Yba.prog))) := by kernel_rfl
def al37 : Sem Value := Instr.alloc 37 true (.tuple #[])
theorem toAl37 : Instr.alloc 37 true (.tuple #[]) = al37 := rfl
theorem al_fin (w : World) : al37.run Yba.prog w = .ok (.pointer (some ⟨w.heap.size, 0, none⟩)) (w.alloc (.cells (fin0F Yba.prog) 37)) := by
  obtain ⟨i, hi, hz⟩ := Option.map_eq_some_iff.1 info37
  simp [al37, Instr.alloc, zeroValue, typeInfo, hi, hz, newVar, newRow, Value.cells]

theorem fing0 (W : World) (F : Nat → List Value) : Fing W (W.alloc (.cells (node0F Yba.prog) 47)) W.heap.size F 0 := by
  have hb := blk_alloc_new W (.cells (node0F Yba.prog) 47)
  have hsz := node0_size
  refine ⟨(Below.refl _ _).alloc (Nat.le_refl _) _, by simp, fun i hi j v hv => ?_, fun j hj => ⟨?_, ?_⟩⟩
  · rw [if_neg (by omega)] at hv
    have hj : j < 21 := by have := (List.getElem?_eq_some_iff.1 hv).1; exact this
    have h1 := flat_get (A := fun _ => zeroM) 160 (fun _ _ => zeroM_mem) i hi j hj
    rw [← node0_fin, List.getElem?_take_of_lt (by omega), List.getElem?_drop, hv] at h1
    simp only [World.cell?, hb]
    rw [Nat.add_assoc, ← Array.getElem?_toList]
    exact h1
  · simp only [World.cell?, hb]
    rw [Array.getElem?_eq_getElem (by omega)]
    rfl
  · simp only [World.frozen?, hb]
    simp

set_option maxHeartbeats 400000 in
theorem known5 (n : Nat) (w : World) : Calls Yba.prog 5 #[.pointer (some ⟨n, 0, none⟩)] w fun e w' => e = .returned (.func (.func 8) #[] #[.pointer (some ⟨w.heap.size, 0, none⟩)]) ∧ w' = w.alloc (.cells #[.pointer (some ⟨n, 0, none⟩)] 29) := by
  go_enter Yba.func5, Yba.ntmps5
  go_wp2
  go_ret
  exact ⟨rfl, rfl⟩

end Go.Proofs.Ybulkecxu.C
