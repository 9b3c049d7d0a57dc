import Derived.Test.YbulkecxuRows
import Derived.WalkKit
import Derived.WalkSpells
import Derived.WalkLawsBesides
import Derived.Deep.OwnRows
import Derived.Deep.QuietTactic
import Derived.BigQuiet
import Derived.Deep.MidRow
import Derived.Deep.AppendLies
import Derived.DeepKeys
import Derived.DeepKeys2
namespace Go.Proofs.Ybulkecxu.C
open Go.RowKit Go.Deep

def P (t : Nat) : Value := .pointer (some ⟨t, 0, none⟩)
theorem hid {p : Prop} (h : p) : Hid p := h
theorem ret_bool {a b : Bool} (h : a = b) : Ending.returned (.bool a) = .returned (.bool b) := by rw [h]

theorem lt_of_cell {w : World} {b o : Nat} {v : Value} (h : w.cell? ⟨b, o, none⟩ = some v) : b < w.heap.size := by
  rcases Nat.lt_or_ge b w.heap.size with h1 | h1
  · exact h1
  · simp [World.cell?, Array.getElem?_eq_none h1] at h
theorem cell_keep {B : Nat} {w w' : World} (hb : Below B w w') {b o : Nat} {v : Value} (hB : b < B) (h : w.cell? ⟨b, o, none⟩ = some v) : w'.cell? ⟨b, o, none⟩ = some v :=
  (hb.cell (p := ⟨b, o, none⟩) hB).trans h
theorem own_keep {w w' : World} (hb : Below w.heap.size w w') {base : Nat} {e : TypeId} {size n : Nat} {v : Value} {xs : List Value} (h : w.ownsRow base e size v n xs) : w'.ownsRow base e size v n xs :=
  h.kept (row := none) ⟨hb.os, hb.tape, hb.output, hb.size, fun k hk _ => hb.block k hk⟩ (by cases v.ownBlock <;> simp)
theorem below_drewN {B : Nat} {w w' : World} (h : Below B w w') (n : Nat) : Below B w (w'.drewN n) := ⟨h.os, h.tape, h.output, h.size, h.block⟩

/-- The cells of one member. -/
def Mem (m : List Value) : Prop := ∃ L, Yba.prog.keyLits 3 28 m = some L

theorem cells28 : Yba.prog.cellsOf 28 = 21 := by kernel_rfl
theorem cells37 : Yba.prog.cellsOf 37 = 3360 := by kernel_rfl
theorem size28 : (Yba.prog.info? 28).map (·.size) = some 21 := by kernel_rfl
theorem size37 : (Yba.prog.info? 37).map (·.size) = some 3360 := by kernel_rfl

theorem Mem.len {m : List Value} (h : Mem m) : m.length = 21 := by
  obtain ⟨L, h⟩ := h
  unfold Program.keyLits at h
  simp only [Yba.underlying28] at h
  split at h
  · rename_i hh; rw [hh.1]; exact cells28
  · cases h

theorem toCell_one (l : Lit) : l.toCell.oneCell' = true := by
  cases l <;> rfl

theorem Mem.one {m : List Value} (h : Mem m) : ∀ v ∈ m, v.oneCell' = true := by
  obtain ⟨L, h⟩ := h
  have := cells_of_lits (P := Yba.prog) 3 28 (by kernel_rfl) 3 m L h
  subst this
  intro v hv
  obtain ⟨l, _, rfl⟩ := List.mem_map.1 hv
  exact toCell_one l

theorem equal28 (m : List Value) (h : Mem m) (w : World) : (Op.equal 28 (.agg m.toArray) (.agg m.toArray)).run Yba.prog w = .ok true w := by
  have hl := h.len
  obtain ⟨L, h⟩ := h
  have hf : (Value.agg m.toArray).formed Yba.prog 28 = true := by
    simp [Value.formed, Yba.underlying28, cells28, hl]
  obtain ⟨r, hr, hi⟩ := run_equalIn_deep (P := Yba.prog) 9997 3 28 (by kernel_rfl) w 3 3 (.agg m.toArray) (.agg m.toArray) L L hf hf (by simpa [Value.cells] using h) (by simpa [Value.cells] using h)
  rw [hi.2 rfl] at hr
  exact hr

theorem neq28 (m : List Value) (h : Mem m) (w : World) : (binOp .neq 28 (.agg m.toArray) (.agg m.toArray)).run Yba.prog w = .ok (.bool false) w := by
  simp only [binOp]
  simp [equal28 m h w]

/-- n members' cells in a row. -/
def flat (A : Nat → List Value) (n : Nat) : List Value := (List.range n).flatMap A

theorem flat_succ (A : Nat → List Value) (n : Nat) : flat A (n + 1) = flat A n ++ A n := by
  unfold flat
  rw [List.range_succ, List.flatMap_append]
  simp

theorem flat_len {A : Nat → List Value} (n : Nat) (h : ∀ i, i < n → Mem (A i)) : (flat A n).length = n * 21 := by
  induction n with
  | zero => rfl
  | succ n ih =>
    rw [flat_succ, List.length_append, ih (fun i hi => h i (by omega)), (h n (by omega)).len]
    omega

theorem flat_one {A : Nat → List Value} (n : Nat) (h : ∀ i, i < n → Mem (A i)) : ∀ v ∈ flat A n, v.oneCell' = true := by
  intro v hv
  obtain ⟨i, hi, hv⟩ := List.mem_flatMap.1 hv
  exact (h i (List.mem_range.1 hi)).one v hv

theorem flat_get {A : Nat → List Value} (n : Nat) (h : ∀ i, i < n → Mem (A i)) (i : Nat) (hi : i < n) (j : Nat) (hj : j < 21) : (flat A n)[i * 21 + j]? = (A i)[j]? := by
  induction n with
  | zero => omega
  | succ n ih =>
    have hl := flat_len n (fun i hi => h i (by omega))
    rw [flat_succ]
    by_cases e : i = n
    · subst e
      rw [List.getElem?_append_right (by omega)]
      congr 1
      omega
    · rw [List.getElem?_append_left (by omega)]
      exact ih (fun i hi => h i (by omega)) (by omega)

theorem flat_chunk {A : Nat → List Value} (n : Nat) (h : ∀ i, i < n → Mem (A i)) (i : Nat) (hi : i < n) : ((flat A n).drop (i * 21)).take 21 = A i := by
  have hl := flat_len n h
  have hi' := (h i hi).len
  apply List.ext_getElem?
  intro j
  by_cases hj : j < 21
  · rw [List.getElem?_take_of_lt hj, List.getElem?_drop, flat_get n h i hi j hj]
  · rw [List.getElem?_eq_none (by simp; omega), List.getElem?_eq_none (by omega)]

theorem flat_congr {A B : Nat → List Value} (n : Nat) (h : ∀ i, i < n → A i = B i) : flat A n = flat B n := by
  induction n with
  | zero => rfl
  | succ n ih => rw [flat_succ, flat_succ, ih (fun i hi => h i (by omega)), h n (by omega)]

theorem keyLits37 {A : Nat → List Value} (h : ∀ i, i < 160 → Mem (A i)) : ∃ L, Yba.prog.keyLits 4 37 (flat A 160) = some L := by
  unfold Program.keyLits
  simp only [Yba.underlying37]
  rw [if_pos (by rw [flat_len 160 h, cells37])]
  have : ∀ n, n ≤ 160 → ∃ acc, ((List.range n).mapM fun i => Yba.prog.keyLits 3 28 (((flat A 160).drop (i * Yba.prog.cellsOf 28)).take (Yba.prog.cellsOf 28))) = some acc := by
    intro n
    induction n with
    | zero => intro _; exact ⟨[], rfl⟩
    | succ n ih =>
      intro hn
      obtain ⟨acc, ha⟩ := ih (by omega)
      obtain ⟨L, hL⟩ := h n (by omega)
      refine ⟨acc ++ [L], ?_⟩
      rw [List.range_succ, List.mapM_append, ha]
      simp only [List.mapM_cons, List.mapM_nil]
      rw [cells28, flat_chunk 160 h n (by omega), hL]
      rfl
  obtain ⟨acc, ha⟩ := this 160 (Nat.le_refl _)
  rw [ha]
  exact ⟨_, rfl⟩

theorem neq37 {A : Nat → List Value} (h : ∀ i, i < 160 → Mem (A i)) (w : World) : (binOp .neq 37 (.agg (flat A 160).toArray) (.agg (flat A 160).toArray)).run Yba.prog w = .ok (.bool false) w := by
  have hl := flat_len 160 h
  obtain ⟨L, hL⟩ := keyLits37 h
  have hf : (Value.agg (flat A 160).toArray).formed Yba.prog 37 = true := by
    simp [Value.formed, Yba.underlying37, cells37, hl]
  obtain ⟨r, hr, hi⟩ := run_equalIn_deep (P := Yba.prog) 9996 4 37 (by kernel_rfl) w 4 4 (.agg (flat A 160).toArray) (.agg (flat A 160).toArray) L L hf hf (by simpa [Value.cells] using hL) (by simpa [Value.cells] using hL)
  rw [hi.2 rfl] at hr
  have he : (Op.equal 37 (.agg (flat A 160).toArray) (.agg (flat A 160).toArray)).run Yba.prog w = .ok true w := hr
  simp only [binOp]
  simp [he]

/-- The zero member. -/
def zeroM : List Value := List.replicate 20 (.int .u8 0) ++ [.string ⟨#[]⟩]
theorem zeroM_mem : Mem zeroM := ⟨(List.replicate 20 (.int .u8 0)) ++ [.string []], by kernel_rfl⟩

theorem eql22 (w : World) (a : Option Addr) (n c : Nat) : (binOp .eql 22 (.slice a n c) (.slice none 0 0)).run Yba.prog w = .ok (.bool a.isNone) w := by
  simp only [binOp]
  simp [Op.equal, Op.maxDepth, run_equalIn_slice_nil w 9999 22 28 a n c Yba.underlying22]

/-! The loads and stores of a whole member, and of the whole array of fingers, kept shut (the walk is not to go cell by cell). -/
def ld28 (x : Value) : Sem Value := Instr.loadAt 28 x
theorem toLd28 (x : Value) : Instr.loadAt 28 x = ld28 x := rfl
def st28 (x y : Value) : Sem Unit := Instr.storeAt 28 x y
theorem toSt28 (x y : Value) : Instr.storeAt 28 x y = st28 x y := rfl
def ld37 (x : Value) : Sem Value := Instr.loadAt 37 x
theorem toLd37 (x : Value) : Instr.loadAt 37 x = ld37 x := rfl
def st37 (x y : Value) : Sem Unit := Instr.storeAt 37 x y
theorem toSt37 (x y : Value) : Instr.storeAt 37 x y = st37 x y := rfl

def nq28 (x y : Value) : Sem Value := binOp .neq 28 x y
theorem toNq28 (x y : Value) : binOp .neq 28 x y = nq28 x y := rfl
theorem nq_mem (m : List Value) (h : Mem m) (w : World) : (nq28 (.agg m.toArray) (.agg m.toArray)).run Yba.prog w = .ok (.bool false) w := neq28 m h w
def nq37 (x y : Value) : Sem Value := binOp .neq 37 x y
theorem toNq37 (x y : Value) : binOp .neq 37 x y = nq37 x y := rfl
theorem nq_fin {A : Nat → List Value} (h : ∀ i, i < 160 → Mem (A i)) (w : World) : (nq37 (.agg (flat A 160).toArray) (.agg (flat A 160).toArray)).run Yba.prog w = .ok (.bool false) w := neq37 h w

theorem load_mem (w : World) (b o : Nat) (m : List Value) (h : Mem m) (hc : w.rangeAt b o m) : (ld28 (.pointer (some ⟨b, o, none⟩))).run Yba.prog w = .ok (.agg m.toArray) w :=
  run_loadAt_mid w b o 28 m _ hc Yba.underlying28 rfl (by rw [size28, h.len])
theorem store_mem (w : World) (b o : Nat) (m : List Value) (h : Mem m) (ht : w.there b o 21) : (st28 (.pointer (some ⟨b, o, none⟩)) (.agg m.toArray)).run Yba.prog w = .ok () (w.setCells b o m) :=
  run_storeAt_mid w b o 28 m.toArray (by rw [List.size_toArray, h.len]; exact ht) (by rw [size28, List.size_toArray, h.len]) (all_oneCell_toArray h.one)
theorem load_fin (w : World) (b o : Nat) (A : Nat → List Value) (h : ∀ i, i < 160 → Mem (A i)) (hc : w.rangeAt b o (flat A 160)) : (ld37 (.pointer (some ⟨b, o, none⟩))).run Yba.prog w = .ok (.agg (flat A 160).toArray) w :=
  run_loadAt_mid w b o 37 (flat A 160) _ hc Yba.underlying37 rfl (by rw [size37, flat_len 160 h])
theorem store_fin (w : World) (b o : Nat) (A : Nat → List Value) (h : ∀ i, i < 160 → Mem (A i)) (ht : w.there b o 3360) : (st37 (.pointer (some ⟨b, o, none⟩)) (.agg (flat A 160).toArray)).run Yba.prog w = .ok () (w.setCells b o (flat A 160)) :=
  run_storeAt_mid w b o 37 (flat A 160).toArray (by rw [List.size_toArray, flat_len 160 h]; exact ht) (by rw [size37, List.size_toArray, flat_len 160 h]) (all_oneCell_toArray (flat_one 160 h))

end Go.Proofs.Ybulkecxu.C
