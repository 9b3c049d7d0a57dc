import Derived.Test.YbulkecuoAWalk
namespace Go.Proofs.Ybulkecuo.A
open Go.Conc Go.RowKit

set_option maxRecDepth 100000 in
set_option maxHeartbeats 1000000 in
theorem walk_fff (a0 a1 : Int) (w : World) :
    Calls Yba.prog 3 #[.int .u8 a0, .int .u8 a1, .bool false, .bool false, .bool false] w fun e w' => e = .returned (.bool true) ∧ Below w.heap.size w w' := by
  obtain ⟨W, hWd⟩ : ∃ W, W = (w.alloc (.cells #[.pointer none, .string ⟨#[]⟩, .int .i64 0, .slice none 0 0, .int .i64 0, .pointer none, .pointer none, .nilIface, .bool false, .slice none 0 0, .slice none 0 0, .slice none 0 0, .slice none 0 0, .int .u64 0, .int .u8 a0, .int .u32 0, .chan none, .chan none, .chan none, .slice none 0 0] 42)) := ⟨_, rfl⟩
  have hbW : Below w.heap.size w W := by rw [hWd]; exact (Below.refl _ w).alloc (Nat.le_refl _) _
  have hbT : Below (w.heap.size + 1) (w.alloc (.cells #[.pointer none, .string ⟨#[]⟩, .int .i64 0, .slice none 0 0, .int .i64 0, .pointer none, .pointer none, .nilIface, .bool false, .slice none 0 0, .slice none 0 0, .slice none 0 0, .slice none 0 0, .int .u64 0, .int .u8 a0, .int .u32 0, .chan none, .chan none, .chan none, .slice none 0 0] 42)) W := by rw [hWd]; exact Below.refl _ _
  have k0 : W.cell? ⟨w.heap.size, 0, none⟩ = some (.pointer none) := (hbT.cell (p := ⟨w.heap.size, 0, none⟩) (Nat.lt_succ_self _)).trans (by simp)
  have k14 : W.cell? ⟨w.heap.size, 14, none⟩ = some (.int .u8 a0) := (hbT.cell (p := ⟨w.heap.size, 14, none⟩) (Nat.lt_succ_self _)).trans (by simp)
  have kf : W.frozen? ⟨w.heap.size, 14, none⟩ = false := (hbT.frozen (p := ⟨w.heap.size, 14, none⟩) (Nat.lt_succ_self _)).trans (by simp)
  have k16 : W.cell? ⟨w.heap.size, 16, none⟩ = some (.chan none) := (hbT.cell (p := ⟨w.heap.size, 16, none⟩) (Nat.lt_succ_self _)).trans (by simp)
  have k17 : W.cell? ⟨w.heap.size, 17, none⟩ = some (.chan none) := (hbT.cell (p := ⟨w.heap.size, 17, none⟩) (Nat.lt_succ_self _)).trans (by simp)
  have k18 : W.cell? ⟨w.heap.size, 18, none⟩ = some (.chan none) := (hbT.cell (p := ⟨w.heap.size, 18, none⟩) (Nat.lt_succ_self _)).trans (by simp)
  have k19 : W.cell? ⟨w.heap.size, 19, none⟩ = some (.slice none 0 0) := (hbT.cell (p := ⟨w.heap.size, 19, none⟩) (Nat.lt_succ_self _)).trans (by simp)
  clear hbT
  have HW : Hid (W = (w.alloc (.cells #[.pointer none, .string ⟨#[]⟩, .int .i64 0, .slice none 0 0, .int .i64 0, .pointer none, .pointer none, .nilIface, .bool false, .slice none 0 0, .slice none 0 0, .slice none 0 0, .slice none 0 0, .int .u64 0, .int .u8 a0, .int .u32 0, .chan none, .chan none, .chan none, .slice none 0 0] 42))) := hWd
  clear hWd
  go_enter Yba.func3, Yba.ntmps3
  go_wp2_with fail
  rw [← HW.out]
  refine (end_nil w.heap.size a1 (.int .u8 a0) W k14 kf k17).mono ?_
  rintro e w1 ⟨rfl, hE, hch⟩
  have c0 := (hE.cells 0 (by decide)).trans k0
  have c14 := hE.st
  have c16 := (hE.cells 16 (by decide)).trans k16
  have c17 := (hE.cells 17 (by decide)).trans k17
  have c18 := (hE.cells 18 (by decide)).trans k18
  have c19 := (hE.cells 19 (by decide)).trans k19
  have hB1 : Below w.heap.size w w1 := hbW.trans hE.below
  clear hE hch hbW k0 k14 k16 k17 k18 k19 kf
  have hq := neq_chan
  have h40 := fun w => run_neq_slice_nil_any w 40 _ none 0 0 0 0 Yba.underlying40
  go_wp2_with fail
  go_ret
  exact ⟨rfl, hB1⟩

set_option maxRecDepth 100000 in
set_option maxHeartbeats 1000000 in
theorem walk_fft (a0 a1 : Int) (w : World) :
    Calls Yba.prog 3 #[.int .u8 a0, .int .u8 a1, .bool false, .bool false, .bool true] w fun e w' => e = .returned (.bool true) ∧ Below w.heap.size w w' := by
  obtain ⟨W, hWd⟩ : ∃ W, W = ((w.alloc (.cells #[.pointer none, .string ⟨#[]⟩, .int .i64 0, .slice none 0 0, .int .i64 0, .pointer none, .pointer none, .nilIface, .bool false, .slice none 0 0, .slice none 0 0, .slice none 0 0, .slice none 0 0, .int .u64 0, .int .u8 a0, .int .u32 0, .chan none, .chan none, .chan (some (w.heap.size + 1)), .slice none 0 0] 42)).alloc (.chan 1 #[] false 0 0 false)) := ⟨_, rfl⟩
  have hbW : Below w.heap.size w W := by rw [hWd]; exact ((Below.refl _ w).alloc (Nat.le_refl _) _).alloc (by simp only [World.size_alloc]; omega) _
  have hbT : Below (w.heap.size + 1) (w.alloc (.cells #[.pointer none, .string ⟨#[]⟩, .int .i64 0, .slice none 0 0, .int .i64 0, .pointer none, .pointer none, .nilIface, .bool false, .slice none 0 0, .slice none 0 0, .slice none 0 0, .slice none 0 0, .int .u64 0, .int .u8 a0, .int .u32 0, .chan none, .chan none, .chan (some (w.heap.size + 1)), .slice none 0 0] 42)) W := by rw [hWd]; exact ((Below.refl _ _)).alloc (by simp only [World.size_alloc]; omega) _
  have k0 : W.cell? ⟨w.heap.size, 0, none⟩ = some (.pointer none) := (hbT.cell (p := ⟨w.heap.size, 0, none⟩) (Nat.lt_succ_self _)).trans (by simp)
  have k14 : W.cell? ⟨w.heap.size, 14, none⟩ = some (.int .u8 a0) := (hbT.cell (p := ⟨w.heap.size, 14, none⟩) (Nat.lt_succ_self _)).trans (by simp)
  have kf : W.frozen? ⟨w.heap.size, 14, none⟩ = false := (hbT.frozen (p := ⟨w.heap.size, 14, none⟩) (Nat.lt_succ_self _)).trans (by simp)
  have k16 : W.cell? ⟨w.heap.size, 16, none⟩ = some (.chan none) := (hbT.cell (p := ⟨w.heap.size, 16, none⟩) (Nat.lt_succ_self _)).trans (by simp)
  have k17 : W.cell? ⟨w.heap.size, 17, none⟩ = some (.chan none) := (hbT.cell (p := ⟨w.heap.size, 17, none⟩) (Nat.lt_succ_self _)).trans (by simp)
  have k18 : W.cell? ⟨w.heap.size, 18, none⟩ = some (.chan (some (w.heap.size + 1))) := (hbT.cell (p := ⟨w.heap.size, 18, none⟩) (Nat.lt_succ_self _)).trans (by simp)
  have k19 : W.cell? ⟨w.heap.size, 19, none⟩ = some (.slice none 0 0) := (hbT.cell (p := ⟨w.heap.size, 19, none⟩) (Nat.lt_succ_self _)).trans (by simp)
  clear hbT
  have qK : W.heap[w.heap.size + 1]? = some (.chan 1 #[] false 0 0 false) := by
    rw [hWd]
    
    have := heap_alloc_new (w.alloc (.cells #[.pointer none, .string ⟨#[]⟩, .int .i64 0, .slice none 0 0, .int .i64 0, .pointer none, .pointer none, .nilIface, .bool false, .slice none 0 0, .slice none 0 0, .slice none 0 0, .slice none 0 0, .int .u64 0, .int .u8 a0, .int .u32 0, .chan none, .chan none, .chan (some (w.heap.size + 1)), .slice none 0 0] 42)) (.chan 1 #[] false 0 0 false)
    simpa only [World.size_alloc] using this
  have hm1 := mk1
  have HW : Hid (W = ((w.alloc (.cells #[.pointer none, .string ⟨#[]⟩, .int .i64 0, .slice none 0 0, .int .i64 0, .pointer none, .pointer none, .nilIface, .bool false, .slice none 0 0, .slice none 0 0, .slice none 0 0, .slice none 0 0, .int .u64 0, .int .u8 a0, .int .u32 0, .chan none, .chan none, .chan (some (w.heap.size + 1)), .slice none 0 0] 42)).alloc (.chan 1 #[] false 0 0 false))) := hWd
  clear hWd
  go_enter Yba.func3, Yba.ntmps3
  go_wp2_with fail
  rw [← HW.out]
  refine (end_nil w.heap.size a1 (.int .u8 a0) W k14 kf k17).mono ?_
  rintro e w1 ⟨rfl, hE, hch⟩
  have c0 := (hE.cells 0 (by decide)).trans k0
  have c14 := hE.st
  have c16 := (hE.cells 16 (by decide)).trans k16
  have c17 := (hE.cells 17 (by decide)).trans k17
  have c18 := (hE.cells 18 (by decide)).trans k18
  have c19 := (hE.cells 19 (by decide)).trans k19
  have hB1 : Below w.heap.size w w1 := hbW.trans hE.below
  have pK := (hch (w.heap.size + 1) (by omega)).trans qK
  have lK := (Array.getElem?_eq_some_iff.1 pK).1
  clear hE hch hbW k0 k14 k16 k17 k18 k19 kf qK hm1
  have hq := neq_chan
  have h40 := fun w => run_neq_slice_nil_any w 40 _ none 0 0 0 0 Yba.underlying40
  go_wp2_with fail
  refine (closed_open (w.heap.size + 1) 1 0 0 false _ pK).mono ?_
  rintro e w2 ⟨rfl, hw2⟩
  rw [hw2]
  clear hw2
  go_wp2_with fail
  go_ret
  exact ⟨rfl, hB1⟩

set_option maxRecDepth 100000 in
set_option maxHeartbeats 1000000 in
theorem walk_ftf (a0 a1 : Int) (w : World) :
    Calls Yba.prog 3 #[.int .u8 a0, .int .u8 a1, .bool false, .bool true, .bool false] w fun e w' => e = .returned (.bool true) ∧ Below w.heap.size w w' := by
  obtain ⟨W, hWd⟩ : ∃ W, W = ((w.alloc (.cells #[.pointer none, .string ⟨#[]⟩, .int .i64 0, .slice none 0 0, .int .i64 0, .pointer none, .pointer none, .nilIface, .bool false, .slice none 0 0, .slice none 0 0, .slice none 0 0, .slice none 0 0, .int .u64 0, .int .u8 a0, .int .u32 0, .chan (some (w.heap.size + 1)), .chan none, .chan none, .slice none 0 0] 42)).alloc (.chan 0 #[] false 0 0 false)) := ⟨_, rfl⟩
  have hbW : Below w.heap.size w W := by rw [hWd]; exact ((Below.refl _ w).alloc (Nat.le_refl _) _).alloc (by simp only [World.size_alloc]; omega) _
  have hbT : Below (w.heap.size + 1) (w.alloc (.cells #[.pointer none, .string ⟨#[]⟩, .int .i64 0, .slice none 0 0, .int .i64 0, .pointer none, .pointer none, .nilIface, .bool false, .slice none 0 0, .slice none 0 0, .slice none 0 0, .slice none 0 0, .int .u64 0, .int .u8 a0, .int .u32 0, .chan (some (w.heap.size + 1)), .chan none, .chan none, .slice none 0 0] 42)) W := by rw [hWd]; exact ((Below.refl _ _)).alloc (by simp only [World.size_alloc]; omega) _
  have k0 : W.cell? ⟨w.heap.size, 0, none⟩ = some (.pointer none) := (hbT.cell (p := ⟨w.heap.size, 0, none⟩) (Nat.lt_succ_self _)).trans (by simp)
  have k14 : W.cell? ⟨w.heap.size, 14, none⟩ = some (.int .u8 a0) := (hbT.cell (p := ⟨w.heap.size, 14, none⟩) (Nat.lt_succ_self _)).trans (by simp)
  have kf : W.frozen? ⟨w.heap.size, 14, none⟩ = false := (hbT.frozen (p := ⟨w.heap.size, 14, none⟩) (Nat.lt_succ_self _)).trans (by simp)
  have k16 : W.cell? ⟨w.heap.size, 16, none⟩ = some (.chan (some (w.heap.size + 1))) := (hbT.cell (p := ⟨w.heap.size, 16, none⟩) (Nat.lt_succ_self _)).trans (by simp)
  have k17 : W.cell? ⟨w.heap.size, 17, none⟩ = some (.chan none) := (hbT.cell (p := ⟨w.heap.size, 17, none⟩) (Nat.lt_succ_self _)).trans (by simp)
  have k18 : W.cell? ⟨w.heap.size, 18, none⟩ = some (.chan none) := (hbT.cell (p := ⟨w.heap.size, 18, none⟩) (Nat.lt_succ_self _)).trans (by simp)
  have k19 : W.cell? ⟨w.heap.size, 19, none⟩ = some (.slice none 0 0) := (hbT.cell (p := ⟨w.heap.size, 19, none⟩) (Nat.lt_succ_self _)).trans (by simp)
  clear hbT
  have qV : W.heap[w.heap.size + 1]? = some (.chan 0 #[] false 0 0 false) := by
    rw [hWd]
    
    have := heap_alloc_new (w.alloc (.cells #[.pointer none, .string ⟨#[]⟩, .int .i64 0, .slice none 0 0, .int .i64 0, .pointer none, .pointer none, .nilIface, .bool false, .slice none 0 0, .slice none 0 0, .slice none 0 0, .slice none 0 0, .int .u64 0, .int .u8 a0, .int .u32 0, .chan (some (w.heap.size + 1)), .chan none, .chan none, .slice none 0 0] 42)) (.chan 0 #[] false 0 0 false)
    simpa only [World.size_alloc] using this
  have hm0 := mk0
  have HW : Hid (W = ((w.alloc (.cells #[.pointer none, .string ⟨#[]⟩, .int .i64 0, .slice none 0 0, .int .i64 0, .pointer none, .pointer none, .nilIface, .bool false, .slice none 0 0, .slice none 0 0, .slice none 0 0, .slice none 0 0, .int .u64 0, .int .u8 a0, .int .u32 0, .chan (some (w.heap.size + 1)), .chan none, .chan none, .slice none 0 0] 42)).alloc (.chan 0 #[] false 0 0 false))) := hWd
  clear hWd
  go_enter Yba.func3, Yba.ntmps3
  go_wp2_with fail
  rw [← HW.out]
  refine (end_nil w.heap.size a1 (.int .u8 a0) W k14 kf k17).mono ?_
  rintro e w1 ⟨rfl, hE, hch⟩
  have c0 := (hE.cells 0 (by decide)).trans k0
  have c14 := hE.st
  have c16 := (hE.cells 16 (by decide)).trans k16
  have c17 := (hE.cells 17 (by decide)).trans k17
  have c18 := (hE.cells 18 (by decide)).trans k18
  have c19 := (hE.cells 19 (by decide)).trans k19
  have hB1 : Below w.heap.size w w1 := hbW.trans hE.below
  have pV := (hch (w.heap.size + 1) (by omega)).trans qV
  have lV := (Array.getElem?_eq_some_iff.1 pV).1
  clear hE hch hbW k0 k14 k16 k17 k18 k19 kf qV hm0
  have hq := neq_chan
  have h40 := fun w => run_neq_slice_nil_any w 40 _ none 0 0 0 0 Yba.underlying40
  go_wp2_with fail
  refine (closed_open (w.heap.size + 1) 0 0 0 false _ pV).mono ?_
  rintro e w2 ⟨rfl, hw2⟩
  rw [hw2]
  clear hw2
  go_wp2_with fail
  go_ret
  exact ⟨rfl, hB1⟩

set_option maxRecDepth 100000 in
set_option maxHeartbeats 1000000 in
theorem walk_ftt (a0 a1 : Int) (w : World) :
    Calls Yba.prog 3 #[.int .u8 a0, .int .u8 a1, .bool false, .bool true, .bool true] w fun e w' => e = .returned (.bool true) ∧ Below w.heap.size w w' := by
  obtain ⟨W, hWd⟩ : ∃ W, W = (((w.alloc (.cells #[.pointer none, .string ⟨#[]⟩, .int .i64 0, .slice none 0 0, .int .i64 0, .pointer none, .pointer none, .nilIface, .bool false, .slice none 0 0, .slice none 0 0, .slice none 0 0, .slice none 0 0, .int .u64 0, .int .u8 a0, .int .u32 0, .chan (some (w.heap.size + 1)), .chan none, .chan (some (w.heap.size + 1 + 1)), .slice none 0 0] 42)).alloc (.chan 0 #[] false 0 0 false)).alloc (.chan 1 #[] false 0 0 false)) := ⟨_, rfl⟩
  have hbW : Below w.heap.size w W := by rw [hWd]; exact (((Below.refl _ w).alloc (Nat.le_refl _) _).alloc (by simp only [World.size_alloc]; omega) _).alloc (by simp only [World.size_alloc]; omega) _
  have hbT : Below (w.heap.size + 1) (w.alloc (.cells #[.pointer none, .string ⟨#[]⟩, .int .i64 0, .slice none 0 0, .int .i64 0, .pointer none, .pointer none, .nilIface, .bool false, .slice none 0 0, .slice none 0 0, .slice none 0 0, .slice none 0 0, .int .u64 0, .int .u8 a0, .int .u32 0, .chan (some (w.heap.size + 1)), .chan none, .chan (some (w.heap.size + 1 + 1)), .slice none 0 0] 42)) W := by rw [hWd]; exact (((Below.refl _ _)).alloc (by simp only [World.size_alloc]; omega) _).alloc (by simp only [World.size_alloc]; omega) _
  have k0 : W.cell? ⟨w.heap.size, 0, none⟩ = some (.pointer none) := (hbT.cell (p := ⟨w.heap.size, 0, none⟩) (Nat.lt_succ_self _)).trans (by simp)
  have k14 : W.cell? ⟨w.heap.size, 14, none⟩ = some (.int .u8 a0) := (hbT.cell (p := ⟨w.heap.size, 14, none⟩) (Nat.lt_succ_self _)).trans (by simp)
  have kf : W.frozen? ⟨w.heap.size, 14, none⟩ = false := (hbT.frozen (p := ⟨w.heap.size, 14, none⟩) (Nat.lt_succ_self _)).trans (by simp)
  have k16 : W.cell? ⟨w.heap.size, 16, none⟩ = some (.chan (some (w.heap.size + 1))) := (hbT.cell (p := ⟨w.heap.size, 16, none⟩) (Nat.lt_succ_self _)).trans (by simp)
  have k17 : W.cell? ⟨w.heap.size, 17, none⟩ = some (.chan none) := (hbT.cell (p := ⟨w.heap.size, 17, none⟩) (Nat.lt_succ_self _)).trans (by simp)
  have k18 : W.cell? ⟨w.heap.size, 18, none⟩ = some (.chan (some (w.heap.size + 1 + 1))) := (hbT.cell (p := ⟨w.heap.size, 18, none⟩) (Nat.lt_succ_self _)).trans (by simp)
  have k19 : W.cell? ⟨w.heap.size, 19, none⟩ = some (.slice none 0 0) := (hbT.cell (p := ⟨w.heap.size, 19, none⟩) (Nat.lt_succ_self _)).trans (by simp)
  clear hbT
  have qV : W.heap[w.heap.size + 1]? = some (.chan 0 #[] false 0 0 false) := by
    rw [hWd]
    rw [Below.heap_alloc _ _ _ (by simp only [World.size_alloc]; omega)];
    have := heap_alloc_new (w.alloc (.cells #[.pointer none, .string ⟨#[]⟩, .int .i64 0, .slice none 0 0, .int .i64 0, .pointer none, .pointer none, .nilIface, .bool false, .slice none 0 0, .slice none 0 0, .slice none 0 0, .slice none 0 0, .int .u64 0, .int .u8 a0, .int .u32 0, .chan (some (w.heap.size + 1)), .chan none, .chan (some (w.heap.size + 1 + 1)), .slice none 0 0] 42)) (.chan 0 #[] false 0 0 false)
    simpa only [World.size_alloc] using this
  have qK : W.heap[w.heap.size + 1 + 1]? = some (.chan 1 #[] false 0 0 false) := by
    rw [hWd]
    
    have := heap_alloc_new ((w.alloc (.cells #[.pointer none, .string ⟨#[]⟩, .int .i64 0, .slice none 0 0, .int .i64 0, .pointer none, .pointer none, .nilIface, .bool false, .slice none 0 0, .slice none 0 0, .slice none 0 0, .slice none 0 0, .int .u64 0, .int .u8 a0, .int .u32 0, .chan (some (w.heap.size + 1)), .chan none, .chan (some (w.heap.size + 1 + 1)), .slice none 0 0] 42)).alloc (.chan 0 #[] false 0 0 false)) (.chan 1 #[] false 0 0 false)
    simpa only [World.size_alloc] using this
  have hm0 := mk0
  have hm1 := mk1
  have HW : Hid (W = (((w.alloc (.cells #[.pointer none, .string ⟨#[]⟩, .int .i64 0, .slice none 0 0, .int .i64 0, .pointer none, .pointer none, .nilIface, .bool false, .slice none 0 0, .slice none 0 0, .slice none 0 0, .slice none 0 0, .int .u64 0, .int .u8 a0, .int .u32 0, .chan (some (w.heap.size + 1)), .chan none, .chan (some (w.heap.size + 1 + 1)), .slice none 0 0] 42)).alloc (.chan 0 #[] false 0 0 false)).alloc (.chan 1 #[] false 0 0 false))) := hWd
  clear hWd
  go_enter Yba.func3, Yba.ntmps3
  go_wp2_with fail
  rw [← HW.out]
  refine (end_nil w.heap.size a1 (.int .u8 a0) W k14 kf k17).mono ?_
  rintro e w1 ⟨rfl, hE, hch⟩
  have c0 := (hE.cells 0 (by decide)).trans k0
  have c14 := hE.st
  have c16 := (hE.cells 16 (by decide)).trans k16
  have c17 := (hE.cells 17 (by decide)).trans k17
  have c18 := (hE.cells 18 (by decide)).trans k18
  have c19 := (hE.cells 19 (by decide)).trans k19
  have hB1 : Below w.heap.size w w1 := hbW.trans hE.below
  have pV := (hch (w.heap.size + 1) (by omega)).trans qV
  have lV := (Array.getElem?_eq_some_iff.1 pV).1
  have pK := (hch (w.heap.size + 1 + 1) (by omega)).trans qK
  have lK := (Array.getElem?_eq_some_iff.1 pK).1
  clear hE hch hbW k0 k14 k16 k17 k18 k19 kf qV qK hm0 hm1
  have hq := neq_chan
  have h40 := fun w => run_neq_slice_nil_any w 40 _ none 0 0 0 0 Yba.underlying40
  go_wp2_with fail
  refine (closed_open (w.heap.size + 1) 0 0 0 false _ pV).mono ?_
  rintro e w2 ⟨rfl, hw2⟩
  rw [hw2]
  clear hw2
  go_wp2_with fail
  refine (closed_open (w.heap.size + 1 + 1) 1 0 0 false _ pK).mono ?_
  rintro e w2 ⟨rfl, hw2⟩
  rw [hw2]
  clear hw2
  go_wp2_with fail
  go_ret
  exact ⟨rfl, hB1⟩

set_option maxRecDepth 100000 in
set_option maxHeartbeats 1000000 in
theorem walk_tff (a0 a1 : Int) (w : World) :
    Calls Yba.prog 3 #[.int .u8 a0, .int .u8 a1, .bool true, .bool false, .bool false] w fun e w' => e = .returned (.bool true) ∧ Below w.heap.size w w' := by
  obtain ⟨W, hWd⟩ : ∃ W, W = ((w.alloc (.cells #[.pointer none, .string ⟨#[]⟩, .int .i64 0, .slice none 0 0, .int .i64 0, .pointer none, .pointer none, .nilIface, .bool false, .slice none 0 0, .slice none 0 0, .slice none 0 0, .slice none 0 0, .int .u64 0, .int .u8 a0, .int .u32 0, .chan none, .chan (some (w.heap.size + 1)), .chan none, .slice none 0 0] 42)).alloc (.chan 0 #[] false 0 0 false)) := ⟨_, rfl⟩
  have hbW : Below w.heap.size w W := by rw [hWd]; exact ((Below.refl _ w).alloc (Nat.le_refl _) _).alloc (by simp only [World.size_alloc]; omega) _
  have hbT : Below (w.heap.size + 1) (w.alloc (.cells #[.pointer none, .string ⟨#[]⟩, .int .i64 0, .slice none 0 0, .int .i64 0, .pointer none, .pointer none, .nilIface, .bool false, .slice none 0 0, .slice none 0 0, .slice none 0 0, .slice none 0 0, .int .u64 0, .int .u8 a0, .int .u32 0, .chan none, .chan (some (w.heap.size + 1)), .chan none, .slice none 0 0] 42)) W := by rw [hWd]; exact ((Below.refl _ _)).alloc (by simp only [World.size_alloc]; omega) _
  have k0 : W.cell? ⟨w.heap.size, 0, none⟩ = some (.pointer none) := (hbT.cell (p := ⟨w.heap.size, 0, none⟩) (Nat.lt_succ_self _)).trans (by simp)
  have k14 : W.cell? ⟨w.heap.size, 14, none⟩ = some (.int .u8 a0) := (hbT.cell (p := ⟨w.heap.size, 14, none⟩) (Nat.lt_succ_self _)).trans (by simp)
  have kf : W.frozen? ⟨w.heap.size, 14, none⟩ = false := (hbT.frozen (p := ⟨w.heap.size, 14, none⟩) (Nat.lt_succ_self _)).trans (by simp)
  have k16 : W.cell? ⟨w.heap.size, 16, none⟩ = some (.chan none) := (hbT.cell (p := ⟨w.heap.size, 16, none⟩) (Nat.lt_succ_self _)).trans (by simp)
  have k17 : W.cell? ⟨w.heap.size, 17, none⟩ = some (.chan (some (w.heap.size + 1))) := (hbT.cell (p := ⟨w.heap.size, 17, none⟩) (Nat.lt_succ_self _)).trans (by simp)
  have k18 : W.cell? ⟨w.heap.size, 18, none⟩ = some (.chan none) := (hbT.cell (p := ⟨w.heap.size, 18, none⟩) (Nat.lt_succ_self _)).trans (by simp)
  have k19 : W.cell? ⟨w.heap.size, 19, none⟩ = some (.slice none 0 0) := (hbT.cell (p := ⟨w.heap.size, 19, none⟩) (Nat.lt_succ_self _)).trans (by simp)
  clear hbT
  have qE : W.heap[w.heap.size + 1]? = some (.chan 0 #[] false 0 0 false) := by
    rw [hWd]
    
    have := heap_alloc_new (w.alloc (.cells #[.pointer none, .string ⟨#[]⟩, .int .i64 0, .slice none 0 0, .int .i64 0, .pointer none, .pointer none, .nilIface, .bool false, .slice none 0 0, .slice none 0 0, .slice none 0 0, .slice none 0 0, .int .u64 0, .int .u8 a0, .int .u32 0, .chan none, .chan (some (w.heap.size + 1)), .chan none, .slice none 0 0] 42)) (.chan 0 #[] false 0 0 false)
    simpa only [World.size_alloc] using this
  have hm0 := mk0
  have HW : Hid (W = ((w.alloc (.cells #[.pointer none, .string ⟨#[]⟩, .int .i64 0, .slice none 0 0, .int .i64 0, .pointer none, .pointer none, .nilIface, .bool false, .slice none 0 0, .slice none 0 0, .slice none 0 0, .slice none 0 0, .int .u64 0, .int .u8 a0, .int .u32 0, .chan none, .chan (some (w.heap.size + 1)), .chan none, .slice none 0 0] 42)).alloc (.chan 0 #[] false 0 0 false))) := hWd
  clear hWd
  go_enter Yba.func3, Yba.ntmps3
  go_wp2_with fail
  rw [← HW.out]
  refine (end_some w.heap.size a1 (.int .u8 a0) (w.heap.size + 1) 0 0 0 false W k14 kf k17 (by omega) qE).mono ?_
  rintro e w1 ⟨rfl, hE, hcl, hch⟩
  have c0 := (hE.cells 0 (by decide)).trans k0
  have c14 := hE.st
  have c16 := (hE.cells 16 (by decide)).trans k16
  have c17 := (hE.cells 17 (by decide)).trans k17
  have c18 := (hE.cells 18 (by decide)).trans k18
  have c19 := (hE.cells 19 (by decide)).trans k19
  have hB1 : Below w.heap.size w w1 := hbW.trans hE.below
  clear hE hch hbW k0 k14 k16 k17 k18 k19 kf qE hm0
  have hq := neq_chan
  have h40 := fun w => run_neq_slice_nil_any w 40 _ none 0 0 0 0 Yba.underlying40
  go_wp2_with fail
  refine (closed_shut (w.heap.size + 1) 0 0 0 false _ hcl).mono ?_
  rintro e w2 ⟨rfl, rfl⟩
  go_wp2_with fail
  go_ret
  exact ⟨rfl, hB1.alloc hB1.size _⟩

set_option maxRecDepth 100000 in
set_option maxHeartbeats 1000000 in
theorem walk_tft (a0 a1 : Int) (w : World) :
    Calls Yba.prog 3 #[.int .u8 a0, .int .u8 a1, .bool true, .bool false, .bool true] w fun e w' => e = .returned (.bool true) ∧ Below w.heap.size w w' := by
  obtain ⟨W, hWd⟩ : ∃ W, W = (((w.alloc (.cells #[.pointer none, .string ⟨#[]⟩, .int .i64 0, .slice none 0 0, .int .i64 0, .pointer none, .pointer none, .nilIface, .bool false, .slice none 0 0, .slice none 0 0, .slice none 0 0, .slice none 0 0, .int .u64 0, .int .u8 a0, .int .u32 0, .chan none, .chan (some (w.heap.size + 1)), .chan (some (w.heap.size + 1 + 1)), .slice none 0 0] 42)).alloc (.chan 0 #[] false 0 0 false)).alloc (.chan 1 #[] false 0 0 false)) := ⟨_, rfl⟩
  have hbW : Below w.heap.size w W := by rw [hWd]; exact (((Below.refl _ w).alloc (Nat.le_refl _) _).alloc (by simp only [World.size_alloc]; omega) _).alloc (by simp only [World.size_alloc]; omega) _
  have hbT : Below (w.heap.size + 1) (w.alloc (.cells #[.pointer none, .string ⟨#[]⟩, .int .i64 0, .slice none 0 0, .int .i64 0, .pointer none, .pointer none, .nilIface, .bool false, .slice none 0 0, .slice none 0 0, .slice none 0 0, .slice none 0 0, .int .u64 0, .int .u8 a0, .int .u32 0, .chan none, .chan (some (w.heap.size + 1)), .chan (some (w.heap.size + 1 + 1)), .slice none 0 0] 42)) W := by rw [hWd]; exact (((Below.refl _ _)).alloc (by simp only [World.size_alloc]; omega) _).alloc (by simp only [World.size_alloc]; omega) _
  have k0 : W.cell? ⟨w.heap.size, 0, none⟩ = some (.pointer none) := (hbT.cell (p := ⟨w.heap.size, 0, none⟩) (Nat.lt_succ_self _)).trans (by simp)
  have k14 : W.cell? ⟨w.heap.size, 14, none⟩ = some (.int .u8 a0) := (hbT.cell (p := ⟨w.heap.size, 14, none⟩) (Nat.lt_succ_self _)).trans (by simp)
  have kf : W.frozen? ⟨w.heap.size, 14, none⟩ = false := (hbT.frozen (p := ⟨w.heap.size, 14, none⟩) (Nat.lt_succ_self _)).trans (by simp)
  have k16 : W.cell? ⟨w.heap.size, 16, none⟩ = some (.chan none) := (hbT.cell (p := ⟨w.heap.size, 16, none⟩) (Nat.lt_succ_self _)).trans (by simp)
  have k17 : W.cell? ⟨w.heap.size, 17, none⟩ = some (.chan (some (w.heap.size + 1))) := (hbT.cell (p := ⟨w.heap.size, 17, none⟩) (Nat.lt_succ_self _)).trans (by simp)
  have k18 : W.cell? ⟨w.heap.size, 18, none⟩ = some (.chan (some (w.heap.size + 1 + 1))) := (hbT.cell (p := ⟨w.heap.size, 18, none⟩) (Nat.lt_succ_self _)).trans (by simp)
  have k19 : W.cell? ⟨w.heap.size, 19, none⟩ = some (.slice none 0 0) := (hbT.cell (p := ⟨w.heap.size, 19, none⟩) (Nat.lt_succ_self _)).trans (by simp)
  clear hbT
  have qE : W.heap[w.heap.size + 1]? = some (.chan 0 #[] false 0 0 false) := by
    rw [hWd]
    rw [Below.heap_alloc _ _ _ (by simp only [World.size_alloc]; omega)];
    have := heap_alloc_new (w.alloc (.cells #[.pointer none, .string ⟨#[]⟩, .int .i64 0, .slice none 0 0, .int .i64 0, .pointer none, .pointer none, .nilIface, .bool false, .slice none 0 0, .slice none 0 0, .slice none 0 0, .slice none 0 0, .int .u64 0, .int .u8 a0, .int .u32 0, .chan none, .chan (some (w.heap.size + 1)), .chan (some (w.heap.size + 1 + 1)), .slice none 0 0] 42)) (.chan 0 #[] false 0 0 false)
    simpa only [World.size_alloc] using this
  have qK : W.heap[w.heap.size + 1 + 1]? = some (.chan 1 #[] false 0 0 false) := by
    rw [hWd]
    
    have := heap_alloc_new ((w.alloc (.cells #[.pointer none, .string ⟨#[]⟩, .int .i64 0, .slice none 0 0, .int .i64 0, .pointer none, .pointer none, .nilIface, .bool false, .slice none 0 0, .slice none 0 0, .slice none 0 0, .slice none 0 0, .int .u64 0, .int .u8 a0, .int .u32 0, .chan none, .chan (some (w.heap.size + 1)), .chan (some (w.heap.size + 1 + 1)), .slice none 0 0] 42)).alloc (.chan 0 #[] false 0 0 false)) (.chan 1 #[] false 0 0 false)
    simpa only [World.size_alloc] using this
  have hm0 := mk0
  have hm1 := mk1
  have HW : Hid (W = (((w.alloc (.cells #[.pointer none, .string ⟨#[]⟩, .int .i64 0, .slice none 0 0, .int .i64 0, .pointer none, .pointer none, .nilIface, .bool false, .slice none 0 0, .slice none 0 0, .slice none 0 0, .slice none 0 0, .int .u64 0, .int .u8 a0, .int .u32 0, .chan none, .chan (some (w.heap.size + 1)), .chan (some (w.heap.size + 1 + 1)), .slice none 0 0] 42)).alloc (.chan 0 #[] false 0 0 false)).alloc (.chan 1 #[] false 0 0 false))) := hWd
  clear hWd
  go_enter Yba.func3, Yba.ntmps3
  go_wp2_with fail
  rw [← HW.out]
  refine (end_some w.heap.size a1 (.int .u8 a0) (w.heap.size + 1) 0 0 0 false W k14 kf k17 (by omega) qE).mono ?_
  rintro e w1 ⟨rfl, hE, hcl, hch⟩
  have c0 := (hE.cells 0 (by decide)).trans k0
  have c14 := hE.st
  have c16 := (hE.cells 16 (by decide)).trans k16
  have c17 := (hE.cells 17 (by decide)).trans k17
  have c18 := (hE.cells 18 (by decide)).trans k18
  have c19 := (hE.cells 19 (by decide)).trans k19
  have hB1 : Below w.heap.size w w1 := hbW.trans hE.below
  have pK := (hch (w.heap.size + 1 + 1) (by omega) (by omega)).trans qK
  have lK := (Array.getElem?_eq_some_iff.1 pK).1
  clear hE hch hbW k0 k14 k16 k17 k18 k19 kf qE qK hm0 hm1
  have hq := neq_chan
  have h40 := fun w => run_neq_slice_nil_any w 40 _ none 0 0 0 0 Yba.underlying40
  go_wp2_with fail
  refine (closed_shut (w.heap.size + 1) 0 0 0 false _ hcl).mono ?_
  rintro e w2 ⟨rfl, rfl⟩
  go_wp2_with fail
  refine (closed_open (w.heap.size + 1 + 1) 1 0 0 false _ ((Below.heap_alloc _ _ _ lK).trans pK)).mono ?_
  rintro e w2 ⟨rfl, hw2⟩
  rw [hw2]
  clear hw2
  go_wp2_with fail
  go_ret
  exact ⟨rfl, hB1.alloc hB1.size _⟩

set_option maxRecDepth 100000 in
set_option maxHeartbeats 1000000 in
theorem walk_ttf (a0 a1 : Int) (w : World) :
    Calls Yba.prog 3 #[.int .u8 a0, .int .u8 a1, .bool true, .bool true, .bool false] w fun e w' => e = .returned (.bool true) ∧ Below w.heap.size w w' := by
  obtain ⟨W, hWd⟩ : ∃ W, W = (((w.alloc (.cells #[.pointer none, .string ⟨#[]⟩, .int .i64 0, .slice none 0 0, .int .i64 0, .pointer none, .pointer none, .nilIface, .bool false, .slice none 0 0, .slice none 0 0, .slice none 0 0, .slice none 0 0, .int .u64 0, .int .u8 a0, .int .u32 0, .chan (some (w.heap.size + 1 + 1)), .chan (some (w.heap.size + 1)), .chan none, .slice none 0 0] 42)).alloc (.chan 0 #[] false 0 0 false)).alloc (.chan 0 #[] false 0 0 false)) := ⟨_, rfl⟩
  have hbW : Below w.heap.size w W := by rw [hWd]; exact (((Below.refl _ w).alloc (Nat.le_refl _) _).alloc (by simp only [World.size_alloc]; omega) _).alloc (by simp only [World.size_alloc]; omega) _
  have hbT : Below (w.heap.size + 1) (w.alloc (.cells #[.pointer none, .string ⟨#[]⟩, .int .i64 0, .slice none 0 0, .int .i64 0, .pointer none, .pointer none, .nilIface, .bool false, .slice none 0 0, .slice none 0 0, .slice none 0 0, .slice none 0 0, .int .u64 0, .int .u8 a0, .int .u32 0, .chan (some (w.heap.size + 1 + 1)), .chan (some (w.heap.size + 1)), .chan none, .slice none 0 0] 42)) W := by rw [hWd]; exact (((Below.refl _ _)).alloc (by simp only [World.size_alloc]; omega) _).alloc (by simp only [World.size_alloc]; omega) _
  have k0 : W.cell? ⟨w.heap.size, 0, none⟩ = some (.pointer none) := (hbT.cell (p := ⟨w.heap.size, 0, none⟩) (Nat.lt_succ_self _)).trans (by simp)
  have k14 : W.cell? ⟨w.heap.size, 14, none⟩ = some (.int .u8 a0) := (hbT.cell (p := ⟨w.heap.size, 14, none⟩) (Nat.lt_succ_self _)).trans (by simp)
  have kf : W.frozen? ⟨w.heap.size, 14, none⟩ = false := (hbT.frozen (p := ⟨w.heap.size, 14, none⟩) (Nat.lt_succ_self _)).trans (by simp)
  have k16 : W.cell? ⟨w.heap.size, 16, none⟩ = some (.chan (some (w.heap.size + 1 + 1))) := (hbT.cell (p := ⟨w.heap.size, 16, none⟩) (Nat.lt_succ_self _)).trans (by simp)
  have k17 : W.cell? ⟨w.heap.size, 17, none⟩ = some (.chan (some (w.heap.size + 1))) := (hbT.cell (p := ⟨w.heap.size, 17, none⟩) (Nat.lt_succ_self _)).trans (by simp)
  have k18 : W.cell? ⟨w.heap.size, 18, none⟩ = some (.chan none) := (hbT.cell (p := ⟨w.heap.size, 18, none⟩) (Nat.lt_succ_self _)).trans (by simp)
  have k19 : W.cell? ⟨w.heap.size, 19, none⟩ = some (.slice none 0 0) := (hbT.cell (p := ⟨w.heap.size, 19, none⟩) (Nat.lt_succ_self _)).trans (by simp)
  clear hbT
  have qE : W.heap[w.heap.size + 1]? = some (.chan 0 #[] false 0 0 false) := by
    rw [hWd]
    rw [Below.heap_alloc _ _ _ (by simp only [World.size_alloc]; omega)];
    have := heap_alloc_new (w.alloc (.cells #[.pointer none, .string ⟨#[]⟩, .int .i64 0, .slice none 0 0, .int .i64 0, .pointer none, .pointer none, .nilIface, .bool false, .slice none 0 0, .slice none 0 0, .slice none 0 0, .slice none 0 0, .int .u64 0, .int .u8 a0, .int .u32 0, .chan (some (w.heap.size + 1 + 1)), .chan (some (w.heap.size + 1)), .chan none, .slice none 0 0] 42)) (.chan 0 #[] false 0 0 false)
    simpa only [World.size_alloc] using this
  have qV : W.heap[w.heap.size + 1 + 1]? = some (.chan 0 #[] false 0 0 false) := by
    rw [hWd]
    
    have := heap_alloc_new ((w.alloc (.cells #[.pointer none, .string ⟨#[]⟩, .int .i64 0, .slice none 0 0, .int .i64 0, .pointer none, .pointer none, .nilIface, .bool false, .slice none 0 0, .slice none 0 0, .slice none 0 0, .slice none 0 0, .int .u64 0, .int .u8 a0, .int .u32 0, .chan (some (w.heap.size + 1 + 1)), .chan (some (w.heap.size + 1)), .chan none, .slice none 0 0] 42)).alloc (.chan 0 #[] false 0 0 false)) (.chan 0 #[] false 0 0 false)
    simpa only [World.size_alloc] using this
  have hm0 := mk0
  have HW : Hid (W = (((w.alloc (.cells #[.pointer none, .string ⟨#[]⟩, .int .i64 0, .slice none 0 0, .int .i64 0, .pointer none, .pointer none, .nilIface, .bool false, .slice none 0 0, .slice none 0 0, .slice none 0 0, .slice none 0 0, .int .u64 0, .int .u8 a0, .int .u32 0, .chan (some (w.heap.size + 1 + 1)), .chan (some (w.heap.size + 1)), .chan none, .slice none 0 0] 42)).alloc (.chan 0 #[] false 0 0 false)).alloc (.chan 0 #[] false 0 0 false))) := hWd
  clear hWd
  go_enter Yba.func3, Yba.ntmps3
  go_wp2_with fail
  rw [← HW.out]
  refine (end_some w.heap.size a1 (.int .u8 a0) (w.heap.size + 1) 0 0 0 false W k14 kf k17 (by omega) qE).mono ?_
  rintro e w1 ⟨rfl, hE, hcl, hch⟩
  have c0 := (hE.cells 0 (by decide)).trans k0
  have c14 := hE.st
  have c16 := (hE.cells 16 (by decide)).trans k16
  have c17 := (hE.cells 17 (by decide)).trans k17
  have c18 := (hE.cells 18 (by decide)).trans k18
  have c19 := (hE.cells 19 (by decide)).trans k19
  have hB1 : Below w.heap.size w w1 := hbW.trans hE.below
  have pV := (hch (w.heap.size + 1 + 1) (by omega) (by omega)).trans qV
  have lV := (Array.getElem?_eq_some_iff.1 pV).1
  clear hE hch hbW k0 k14 k16 k17 k18 k19 kf qE qV hm0
  have hq := neq_chan
  have h40 := fun w => run_neq_slice_nil_any w 40 _ none 0 0 0 0 Yba.underlying40
  go_wp2_with fail
  refine (closed_shut (w.heap.size + 1) 0 0 0 false _ hcl).mono ?_
  rintro e w2 ⟨rfl, rfl⟩
  go_wp2_with fail
  refine (closed_open (w.heap.size + 1 + 1) 0 0 0 false _ ((Below.heap_alloc _ _ _ lV).trans pV)).mono ?_
  rintro e w2 ⟨rfl, hw2⟩
  rw [hw2]
  clear hw2
  go_wp2_with fail
  go_ret
  exact ⟨rfl, hB1.alloc hB1.size _⟩

set_option maxRecDepth 100000 in
set_option maxHeartbeats 1000000 in
theorem walk_ttt (a0 a1 : Int) (w : World) :
    Calls Yba.prog 3 #[.int .u8 a0, .int .u8 a1, .bool true, .bool true, .bool true] w fun e w' => e = .returned (.bool true) ∧ Below w.heap.size w w' := by
  obtain ⟨W, hWd⟩ : ∃ W, W = ((((w.alloc (.cells #[.pointer none, .string ⟨#[]⟩, .int .i64 0, .slice none 0 0, .int .i64 0, .pointer none, .pointer none, .nilIface, .bool false, .slice none 0 0, .slice none 0 0, .slice none 0 0, .slice none 0 0, .int .u64 0, .int .u8 a0, .int .u32 0, .chan (some (w.heap.size + 1 + 1)), .chan (some (w.heap.size + 1)), .chan (some (w.heap.size + 1 + 1 + 1)), .slice none 0 0] 42)).alloc (.chan 0 #[] false 0 0 false)).alloc (.chan 0 #[] false 0 0 false)).alloc (.chan 1 #[] false 0 0 false)) := ⟨_, rfl⟩
  have hbW : Below w.heap.size w W := by rw [hWd]; exact ((((Below.refl _ w).alloc (Nat.le_refl _) _).alloc (by simp only [World.size_alloc]; omega) _).alloc (by simp only [World.size_alloc]; omega) _).alloc (by simp only [World.size_alloc]; omega) _
  have hbT : Below (w.heap.size + 1) (w.alloc (.cells #[.pointer none, .string ⟨#[]⟩, .int .i64 0, .slice none 0 0, .int .i64 0, .pointer none, .pointer none, .nilIface, .bool false, .slice none 0 0, .slice none 0 0, .slice none 0 0, .slice none 0 0, .int .u64 0, .int .u8 a0, .int .u32 0, .chan (some (w.heap.size + 1 + 1)), .chan (some (w.heap.size + 1)), .chan (some (w.heap.size + 1 + 1 + 1)), .slice none 0 0] 42)) W := by rw [hWd]; exact ((((Below.refl _ _)).alloc (by simp only [World.size_alloc]; omega) _).alloc (by simp only [World.size_alloc]; omega) _).alloc (by simp only [World.size_alloc]; omega) _
  have k0 : W.cell? ⟨w.heap.size, 0, none⟩ = some (.pointer none) := (hbT.cell (p := ⟨w.heap.size, 0, none⟩) (Nat.lt_succ_self _)).trans (by simp)
  have k14 : W.cell? ⟨w.heap.size, 14, none⟩ = some (.int .u8 a0) := (hbT.cell (p := ⟨w.heap.size, 14, none⟩) (Nat.lt_succ_self _)).trans (by simp)
  have kf : W.frozen? ⟨w.heap.size, 14, none⟩ = false := (hbT.frozen (p := ⟨w.heap.size, 14, none⟩) (Nat.lt_succ_self _)).trans (by simp)
  have k16 : W.cell? ⟨w.heap.size, 16, none⟩ = some (.chan (some (w.heap.size + 1 + 1))) := (hbT.cell (p := ⟨w.heap.size, 16, none⟩) (Nat.lt_succ_self _)).trans (by simp)
  have k17 : W.cell? ⟨w.heap.size, 17, none⟩ = some (.chan (some (w.heap.size + 1))) := (hbT.cell (p := ⟨w.heap.size, 17, none⟩) (Nat.lt_succ_self _)).trans (by simp)
  have k18 : W.cell? ⟨w.heap.size, 18, none⟩ = some (.chan (some (w.heap.size + 1 + 1 + 1))) := (hbT.cell (p := ⟨w.heap.size, 18, none⟩) (Nat.lt_succ_self _)).trans (by simp)
  have k19 : W.cell? ⟨w.heap.size, 19, none⟩ = some (.slice none 0 0) := (hbT.cell (p := ⟨w.heap.size, 19, none⟩) (Nat.lt_succ_self _)).trans (by simp)
  clear hbT
  have qE : W.heap[w.heap.size + 1]? = some (.chan 0 #[] false 0 0 false) := by
    rw [hWd]
    rw [Below.heap_alloc _ _ _ (by simp only [World.size_alloc]; omega)]; rw [Below.heap_alloc _ _ _ (by simp only [World.size_alloc]; omega)];
    have := heap_alloc_new (w.alloc (.cells #[.pointer none, .string ⟨#[]⟩, .int .i64 0, .slice none 0 0, .int .i64 0, .pointer none, .pointer none, .nilIface, .bool false, .slice none 0 0, .slice none 0 0, .slice none 0 0, .slice none 0 0, .int .u64 0, .int .u8 a0, .int .u32 0, .chan (some (w.heap.size + 1 + 1)), .chan (some (w.heap.size + 1)), .chan (some (w.heap.size + 1 + 1 + 1)), .slice none 0 0] 42)) (.chan 0 #[] false 0 0 false)
    simpa only [World.size_alloc] using this
  have qV : W.heap[w.heap.size + 1 + 1]? = some (.chan 0 #[] false 0 0 false) := by
    rw [hWd]
    rw [Below.heap_alloc _ _ _ (by simp only [World.size_alloc]; omega)];
    have := heap_alloc_new ((w.alloc (.cells #[.pointer none, .string ⟨#[]⟩, .int .i64 0, .slice none 0 0, .int .i64 0, .pointer none, .pointer none, .nilIface, .bool false, .slice none 0 0, .slice none 0 0, .slice none 0 0, .slice none 0 0, .int .u64 0, .int .u8 a0, .int .u32 0, .chan (some (w.heap.size + 1 + 1)), .chan (some (w.heap.size + 1)), .chan (some (w.heap.size + 1 + 1 + 1)), .slice none 0 0] 42)).alloc (.chan 0 #[] false 0 0 false)) (.chan 0 #[] false 0 0 false)
    simpa only [World.size_alloc] using this
  have qK : W.heap[w.heap.size + 1 + 1 + 1]? = some (.chan 1 #[] false 0 0 false) := by
    rw [hWd]
    
    have := heap_alloc_new (((w.alloc (.cells #[.pointer none, .string ⟨#[]⟩, .int .i64 0, .slice none 0 0, .int .i64 0, .pointer none, .pointer none, .nilIface, .bool false, .slice none 0 0, .slice none 0 0, .slice none 0 0, .slice none 0 0, .int .u64 0, .int .u8 a0, .int .u32 0, .chan (some (w.heap.size + 1 + 1)), .chan (some (w.heap.size + 1)), .chan (some (w.heap.size + 1 + 1 + 1)), .slice none 0 0] 42)).alloc (.chan 0 #[] false 0 0 false)).alloc (.chan 0 #[] false 0 0 false)) (.chan 1 #[] false 0 0 false)
    simpa only [World.size_alloc] using this
  have hm0 := mk0
  have hm1 := mk1
  have HW : Hid (W = ((((w.alloc (.cells #[.pointer none, .string ⟨#[]⟩, .int .i64 0, .slice none 0 0, .int .i64 0, .pointer none, .pointer none, .nilIface, .bool false, .slice none 0 0, .slice none 0 0, .slice none 0 0, .slice none 0 0, .int .u64 0, .int .u8 a0, .int .u32 0, .chan (some (w.heap.size + 1 + 1)), .chan (some (w.heap.size + 1)), .chan (some (w.heap.size + 1 + 1 + 1)), .slice none 0 0] 42)).alloc (.chan 0 #[] false 0 0 false)).alloc (.chan 0 #[] false 0 0 false)).alloc (.chan 1 #[] false 0 0 false))) := hWd
  clear hWd
  go_enter Yba.func3, Yba.ntmps3
  go_wp2_with fail
  rw [← HW.out]
  refine (end_some w.heap.size a1 (.int .u8 a0) (w.heap.size + 1) 0 0 0 false W k14 kf k17 (by omega) qE).mono ?_
  rintro e w1 ⟨rfl, hE, hcl, hch⟩
  have c0 := (hE.cells 0 (by decide)).trans k0
  have c14 := hE.st
  have c16 := (hE.cells 16 (by decide)).trans k16
  have c17 := (hE.cells 17 (by decide)).trans k17
  have c18 := (hE.cells 18 (by decide)).trans k18
  have c19 := (hE.cells 19 (by decide)).trans k19
  have hB1 : Below w.heap.size w w1 := hbW.trans hE.below
  have pV := (hch (w.heap.size + 1 + 1) (by omega) (by omega)).trans qV
  have lV := (Array.getElem?_eq_some_iff.1 pV).1
  have pK := (hch (w.heap.size + 1 + 1 + 1) (by omega) (by omega)).trans qK
  have lK := (Array.getElem?_eq_some_iff.1 pK).1
  clear hE hch hbW k0 k14 k16 k17 k18 k19 kf qE qV qK hm0 hm1
  have hq := neq_chan
  have h40 := fun w => run_neq_slice_nil_any w 40 _ none 0 0 0 0 Yba.underlying40
  go_wp2_with fail
  refine (closed_shut (w.heap.size + 1) 0 0 0 false _ hcl).mono ?_
  rintro e w2 ⟨rfl, rfl⟩
  go_wp2_with fail
  refine (closed_open (w.heap.size + 1 + 1) 0 0 0 false _ ((Below.heap_alloc _ _ _ lV).trans pV)).mono ?_
  rintro e w2 ⟨rfl, hw2⟩
  rw [hw2]
  clear hw2
  go_wp2_with fail
  refine (closed_open (w.heap.size + 1 + 1 + 1) 1 0 0 false _ ((Below.heap_alloc _ _ _ lK).trans pK)).mono ?_
  rintro e w2 ⟨rfl, hw2⟩
  rw [hw2]
  clear hw2
  go_wp2_with fail
  go_ret
  exact ⟨rfl, hB1.alloc hB1.size _⟩

theorem walk_any (a0 a1 : Int) (a2 a3 a4 : Bool) (w : World) :
    Calls Yba.prog 3 #[.int .u8 a0, .int .u8 a1, .bool a2, .bool a3, .bool a4] w fun e w' => e = .returned (.bool true) ∧ Below w.heap.size w w' := by
  cases a2 <;> cases a3 <;> cases a4
  · exact walk_fff a0 a1 w
  · exact walk_fft a0 a1 w
  · exact walk_ftf a0 a1 w
  · exact walk_ftt a0 a1 w
  · exact walk_tff a0 a1 w
  · exact walk_tft a0 a1 w
  · exact walk_ttf a0 a1 w
  · exact walk_ttt a0 a1 w
end Go.Proofs.Ybulkecuo.A
