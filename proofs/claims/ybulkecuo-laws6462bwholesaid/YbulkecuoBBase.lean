import Derived.Test.YbulkecuoRows
import Derived.WalkKit
import Derived.WalkSpells
import Derived.WalkLawsBesides
import Derived.LaidEqlPtr
import Derived.Deep.OwnRows
import Derived.Deep.QuietTactic
import Derived.BigQuiet
namespace Go.Proofs.Ybulkecuo.B
open Go.RowKit

/-- Block t is a row of cells, none frozen. -/
def IsBlk (w : World) (t : Nat) : Prop := ∃ c e, w.heap[t]? = some (.cells c e (0, 0))
def P (t : Nat) : Value := .pointer (some ⟨t, 0, none⟩)
theorem hid {p : Prop} (h : p) : Hid p := h
theorem ret_bool {a b : Bool} (h : a = b) : Ending.returned (.bool a) = .returned (.bool b) := by rw [h]
theorem ret_int {k : IntKind} {a b : Int} (h : a = b) : Ending.returned (.int k a) = .returned (.int k b) := by rw [h]

theorem lt_of_cell {w : World} {b o : Nat} {v : Value} (h : w.cell? ⟨b, o, none⟩ = some v) : b < w.heap.size := by
  rcases Nat.lt_or_ge b w.heap.size with h1 | h1
  · exact h1
  · simp [World.cell?, Array.getElem?_eq_none h1] at h
theorem cell_keep {B : Nat} {w w' : World} (hb : Below B w w') {b o : Nat} {v : Value} (hB : b < B) (h : w.cell? ⟨b, o, none⟩ = some v) : w'.cell? ⟨b, o, none⟩ = some v :=
  (hb.cell (p := ⟨b, o, none⟩) hB).trans h
theorem blk_lt {w : World} {t : Nat} (h : IsBlk w t) : t < w.heap.size := by
  obtain ⟨c, e, h⟩ := h
  exact (Array.getElem?_eq_some_iff.1 h).1
theorem blk_keep {B : Nat} {w w' : World} (hb : Below B w w') {t : Nat} (hB : t < B) (h : IsBlk w t) : IsBlk w' t := by
  obtain ⟨c, e, h⟩ := h
  exact ⟨c, e, (hb.block t hB).trans h⟩
theorem own_keep {w w' : World} (hb : Below w.heap.size w w') {base : Nat} {e : TypeId} {size n : Nat} {v : Value} {xs : List Value} (h : w.ownsRow base e size v n xs) : w'.ownsRow base e size v n xs :=
  h.kept (row := none) ⟨hb.os, hb.tape, hb.output, hb.size, fun k hk _ => hb.block k hk⟩ (by cases v.ownBlock <;> simp)
theorem below_drewN {B : Nat} {w w' : World} (h : Below B w w') (n : Nat) : Below B w (w'.drewN n) := ⟨h.os, h.tape, h.output, h.size, h.block⟩

theorem eql_gen {tp te : TypeId} (hp : Yba.prog.underlying tp = some (.pointer te)) (hi : ∃ j, Yba.prog.info? te = some j ∧ j.size ≠ 0) (w : World) (a b : Nat) (ha : IsBlk w a) (hb : IsBlk w b) :
    ∀ d, (Op.equalIn (d + 1) tp (.pointer (some ⟨a, 0, none⟩)) (.pointer (some ⟨b, 0, none⟩))).run Yba.prog w = .ok (decide (a = b)) w := by
  obtain ⟨j, hj, hs⟩ := hi
  intro d
  by_cases e : a = b
  · subst e
    simp [Op.equalIn, run_underlying hp, sizeOf, typeInfo, hj, run_sameAddr_same]
  · obtain ⟨ca, ta, ha⟩ := ha
    obtain ⟨cb, tb, hb⟩ := hb
    have hne : (⟨a, 0, none⟩ : Addr) ≠ ⟨b, 0, none⟩ := fun h => e (by injection h)
    simp [Op.equalIn, run_underlying hp, sizeOf, typeInfo, hj, hs, run_sameAddr_other w hne ha hb, e]

theorem info33 : ∃ j, Yba.prog.info? 33 = some j ∧ j.size ≠ 0 := by
  have h : (Yba.prog.info? 33).map (·.size) = some 13 := by kernel_rfl
  obtain ⟨i, hi, hb⟩ := Option.map_eq_some_iff.1 h
  exact ⟨i, hi, by omega⟩
theorem info61 : ∃ j, Yba.prog.info? 61 = some j ∧ j.size ≠ 0 := by
  have h : (Yba.prog.info? 61).map (·.size) = some 8 := by kernel_rfl
  obtain ⟨i, hi, hb⟩ := Option.map_eq_some_iff.1 h
  exact ⟨i, hi, by omega⟩
theorem info52 : ∃ j, Yba.prog.info? 52 = some j ∧ j.size ≠ 0 := by
  have h : (Yba.prog.info? 52).map (·.size) = some 7 := by kernel_rfl
  obtain ⟨i, hi, hb⟩ := Option.map_eq_some_iff.1 h
  exact ⟨i, hi, by omega⟩

theorem eql47 (w : World) (a b : Nat) (ha : IsBlk w a) (hb : IsBlk w b) : (binOp .eql 47 (.pointer (some ⟨a, 0, none⟩)) (.pointer (some ⟨b, 0, none⟩))).run Yba.prog w = .ok (.bool (decide (a = b))) w := by
  simp only [binOp]
  simp [Op.equal, Op.maxDepth, eql_gen Yba.underlying47 info33 w a b ha hb 9999]
theorem neq47 (w : World) (a b : Nat) (ha : IsBlk w a) (hb : IsBlk w b) : (binOp .neq 47 (.pointer (some ⟨a, 0, none⟩)) (.pointer (some ⟨b, 0, none⟩))).run Yba.prog w = .ok (.bool (!decide (a = b))) w := by
  simp only [binOp]
  simp [Op.equal, Op.maxDepth, eql_gen Yba.underlying47 info33 w a b ha hb 9999]
theorem eql26 (w : World) (a b : Nat) (ha : IsBlk w a) (hb : IsBlk w b) : (binOp .eql 26 (.pointer (some ⟨a, 0, none⟩)) (.pointer (some ⟨b, 0, none⟩))).run Yba.prog w = .ok (.bool (decide (a = b))) w := by
  simp only [binOp]
  simp [Op.equal, Op.maxDepth, eql_gen Yba.underlying26 info61 w a b ha hb 9999]
theorem neq26 (w : World) (a b : Nat) (ha : IsBlk w a) (hb : IsBlk w b) : (binOp .neq 26 (.pointer (some ⟨a, 0, none⟩)) (.pointer (some ⟨b, 0, none⟩))).run Yba.prog w = .ok (.bool (!decide (a = b))) w := by
  simp only [binOp]
  simp [Op.equal, Op.maxDepth, eql_gen Yba.underlying26 info61 w a b ha hb 9999]
theorem neq27 (w : World) (a b : Nat) (ha : IsBlk w a) (hb : IsBlk w b) : (binOp .neq 27 (.pointer (some ⟨a, 0, none⟩)) (.pointer (some ⟨b, 0, none⟩))).run Yba.prog w = .ok (.bool (!decide (a = b))) w := by
  simp only [binOp]
  simp [Op.equal, Op.maxDepth, eql_gen Yba.underlying27 info52 w a b ha hb 9999]

/-- A holder of transaction t in mode m keeps x from a lock in mode o. -/
def blk (t : Nat) (m : Int) (x : Nat) (o : Int) : Bool := (!decide (t = x)) && !(m == 1 && o == 1)

set_option maxHeartbeats 400000 in
theorem compat (m o : Int) (w : World) : Calls Yba.prog 25 #[.int .u8 m, .int .u8 o] w fun e w' => e = .returned (.bool (m == 1 && o == 1)) ∧ w' = w := by
  cases hm : (m == 1) with
  | true =>
    go_enter Yba.func25, Yba.ntmps25
    go_wp2
    go_ret
    exact ⟨ret_bool (by simp), rfl⟩
  | false =>
    go_enter Yba.func25, Yba.ntmps25
    go_wp2
    go_ret
    exact ⟨ret_bool (by simp), rfl⟩

set_option maxHeartbeats 400000 in
theorem mode_any (m : Int) (h0 : 0 ≤ m) (h1 : m ≤ 255) (w : World) : Calls Yba.prog 8 #[.int .u8 m] w fun e w' => e = .returned (.int .u8 (m % 3)) ∧ w' = w := by
  go_enter Yba.func8, Yba.ntmps8
  go_wp2
  go_ret
  exact ⟨rfl, rfl⟩

theorem isblk_alloc {w : World} {t : Nat} (h : IsBlk w t) (o : Obj) : IsBlk (w.alloc o) t := by
  obtain ⟨c, e, hb⟩ := h
  exact ⟨c, e, (Go.Deep.blk_alloc_lt _ _ _ (Array.getElem?_eq_some_iff.1 hb).1).trans hb⟩

set_option maxHeartbeats 400000 in
theorem blocks_any (t x : Nat) (m o : Int) (w : World) (ht : IsBlk w t) (hx : IsBlk w x) :
    Calls Yba.prog 19 #[.agg #[.pointer (some ⟨t, 0, none⟩), .int .u8 m], .pointer (some ⟨x, 0, none⟩), .int .u8 o] w fun e w' => e = .returned (.bool (blk t m x o)) ∧ w' = w.alloc (.cells #[.pointer (some ⟨t, 0, none⟩), .int .u8 m] 58) := by
  have hq := neq47 (w.alloc (.cells #[.pointer (some ⟨t, 0, none⟩), .int .u8 m] 58)) t x (isblk_alloc ht _) (isblk_alloc hx _)
  have hc := fun w => compat m o w
  by_cases e : t = x
  · rw [decide_eq_true e] at hq
    have HB := hid (show blk t m x o = false by simp [blk, e])
    clear e
    go_enter Yba.func19, Yba.ntmps19
    go_wp2
    go_ret
    exact ⟨ret_bool HB.out.symm, rfl⟩
  · rw [decide_eq_false e] at hq
    have HB := hid (show blk t m x o = !(m == 1 && o == 1) by simp [blk, e])
    clear e
    go_enter Yba.func19, Yba.ntmps19
    go_wp2_with fail
    refine (hc _).mono ?_
    rintro e w' ⟨rfl, rfl⟩
    go_wp2
    go_ret
    exact ⟨ret_bool (by rw [HB.out]; simp), rfl⟩

set_option maxHeartbeats 400000 in
/-- The closure of 'fits': its captured variables lie at yb, mb. -/
theorem clo18 (t x yb mb : Nat) (m o : Int) (w : World) (ht : IsBlk w t) (hx : IsBlk w x) (cy : w.cell? ⟨yb, 0, none⟩ = some (.pointer (some ⟨x, 0, none⟩))) (cm : w.cell? ⟨mb, 0, none⟩ = some (.int .u8 o)) :
    Calls Yba.prog 18 #[.agg #[.pointer (some ⟨t, 0, none⟩), .int .u8 m], .pointer (some ⟨yb, 0, none⟩), .pointer (some ⟨mb, 0, none⟩)] w fun e w' => e = .returned (.bool (blk t m x o)) ∧ Below w.heap.size w w' := by
  have hb := blocks_any t x m o (w.alloc (.cells #[.pointer (some ⟨t, 0, none⟩), .int .u8 m] 58)) (isblk_alloc ht _) (isblk_alloc hx _)
  have l1 := lt_of_cell cy
  have l2 := lt_of_cell cm
  go_enter Yba.func18, Yba.ntmps18
  go_wp2_with fail
  refine hb.mono ?_
  rintro e w' ⟨rfl, rfl⟩
  go_wp2
  go_ret
  exact ⟨rfl, ((Below.refl _ _).alloc (Nat.le_refl _) _).alloc (by simp) _⟩

set_option maxRecDepth 100000 in
set_option maxHeartbeats 400000 in
/-- The closure that DeleteFunc is handed: is the holder the transaction of the request at pv's pointer? -/
theorem clo21 (t pv nd x : Nat) (m : Int) (w : World) (ht : IsBlk w t) (hx : IsBlk w x) (cp : w.cell? ⟨pv, 0, none⟩ = some (.pointer (some ⟨nd, 0, none⟩))) (cn : w.cell? ⟨nd, 0, none⟩ = some (.pointer (some ⟨x, 0, none⟩))) :
    Calls Yba.prog 21 #[.agg #[.pointer (some ⟨t, 0, none⟩), .int .u8 m], .pointer (some ⟨pv, 0, none⟩)] w fun e w' => e = .returned (.bool (decide (t = x))) ∧ Below w.heap.size w w' := by
  have hq := fun nn => eql47 ((w.alloc (.cells #[.pointer (some ⟨t, 0, none⟩), .int .u8 m] 58)).drewN nn) t x (isblk_alloc ht _) (isblk_alloc hx _)
  have l1 := lt_of_cell cp
  have l2 := lt_of_cell cn
  go_enter Yba.func21, Yba.ntmps21
  go_wp2
  go_quiet (fail)
  go_wp2
  go_ret
  exact ⟨rfl, below_drewN ((Below.refl _ _).alloc (Nat.le_refl _) _) _⟩

end Go.Proofs.Ybulkecuo.B
