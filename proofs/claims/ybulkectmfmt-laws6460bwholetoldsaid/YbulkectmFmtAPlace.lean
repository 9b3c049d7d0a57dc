import Derived.Test.YbulkectmFmtAFmt
namespace Go.Proofs.YbulkectmFmt.A
set_option linter.unusedVariables false
set_option linter.unusedSimpArgs false
open Go.RowKit Go.Deep Go.Extern.Stop Go.Stop Go.Extern

theorem idStr_size (i : Nat) (hi : i ≤ 100000) : (idStr i).size ≤ maxLen := by
  have h := dig_len i
  show (strOfNums (idNums i)).data.size ≤ maxLen
  unfold strOfNums idNums maxLen
  simp
  omega

def key (s : ByteArray) : Lit := .string s.data.toList
/-- What the index answers. -/
structure Ix (M : GM) (D : GD) : Prop where
  hit : ∀ i, i < D.n → Maps.has M.DM (key (idStr i)) = true ∧ M.DM.atKey (key (idStr i)) (.lit (.int .i64 0)) = .lit (.int .i64 (i : Int))
  miss : Maps.has M.DM (key missing) = false

theorem zero3 (w : World) : (zeroValue 3).run Ybaf.prog w = .ok (.int .i64 0) w := by kernel_rfl
theorem keyOf9 (s : ByteArray) (hs : s.size ≤ maxLen) : keyOf Ybaf.prog 9 (.string s) = some (key s) := by
  unfold keyOf mapKey key
  simp [Ybaf.underlying9, hs]

def lk28 (m k : Value) : Sem Value := Instr.lookup 28 m k true
theorem toLk28 (m k : Value) : Instr.lookup 28 m k true = lk28 m k := rfl
theorem look_hit {w : World} {M : GM} {D : GD} (hG : Gr w M D) (hX : Ix M D) {i : Nat} (hi : i < D.n) (hn : D.n ≤ 300) : (lk28 (.map (some M.mb)) (.string (idStr i))).run Ybaf.prog w = .ok (.tuple #[.int .i64 (i : Int), .bool true]) w := by
  obtain ⟨v, ps, h1, h2⟩ := hG.idx.look_ok (Go.Maps.string_keyed Ybaf.underlying9) Ybaf.underlying28 (zero3 w) (plainElem_int Ybaf.underlying3 (a := 0) (by decide)) (keyOf9 _ (idStr_size i (by omega)))
  rw [(hX.hit i hi).1] at h1
  rw [(hX.hit i hi).2] at h2
  obtain ⟨a, rfl, h3, _⟩ := plainElem_int_inv Ybaf.underlying3 h2
  have : a = (i : Int) := by
    have h4 := congrArg Prod.fst h3
    simp at h4
    exact h4.symm
  subst this
  exact h1
theorem look_miss {w : World} {M : GM} {D : GD} (hG : Gr w M D) (hX : Ix M D) : ∃ a : Int, (lk28 (.map (some M.mb)) (.string missing)).run Ybaf.prog w = .ok (.tuple #[.int .i64 a, .bool false]) w := by
  obtain ⟨v, ps, h1, h2⟩ := hG.idx.look_ok (Go.Maps.string_keyed Ybaf.underlying9) Ybaf.underlying28 (zero3 w) (plainElem_int Ybaf.underlying3 (a := 0) (by decide)) (keyOf9 missing (by unfold maxLen; decide))
  rw [hX.miss] at h1
  obtain ⟨a, rfl, _, _⟩ := plainElem_int_inv Ybaf.underlying3 h2
  exact ⟨a, h1⟩

attribute [local go_sem ↓] toLk28

set_option maxHeartbeats 1000000 in
theorem place_ok (w : World) (M : GM) (D : GD) (hn : D.n ≤ 300) (hG : Gr w M D) (hX : Ix M D) (i : Nat) (hi : i < D.n) :
    Calls Ybaf.prog 10 #[.pointer (some ⟨M.gp, 0, none⟩), .string (idStr i)] w fun e w' => e = .returned (.tuple #[.int .i64 (i : Int), .nilIface]) ∧ w' = w := by
  have h1 := look_hit hG hX hi hn
  have c3 := hG.c3
  obtain ⟨S, hS⟩ : ∃ S, S = idStr i := ⟨_, rfl⟩
  rw [← hS] at h1 ⊢
  clear hS hG hX
  go_enter Ybaf.func10, Ybaf.ntmps10
  go_wp2
  go_ret2
  exact ⟨rfl, rfl⟩

set_option maxHeartbeats 1000000 in
theorem place_bad (F : Interp) (w : World) (hF : F.answers w.tape) (M : GM) (D : GD) (hG : Gr w M D) (hX : Ix M D) :
    Calls Ybaf.prog 10 #[.pointer (some ⟨M.gp, 0, none⟩), .string missing] w fun e w' => (∃ a, e = .returned (.tuple #[.int .i64 0, .iface 89 (.pointer (some a))])) ∧ Below w.heap.size w w' := by
  obtain ⟨a, h1⟩ := look_miss hG hX
  have c3 := hG.c3
  have HE := hid (errorf_any F (w.alloc (.cells #[.iface 9 (.string missing)] 82)) hF w.heap.size (by simp))
  have HE2 := hid (fun t => errorf_any F (w.alloc (.cells #[.iface 9 (.string missing)] t)) hF w.heap.size (by simp))
  obtain ⟨S, hS⟩ : ∃ S, S = missing := ⟨_, rfl⟩
  rw [← hS] at h1 HE HE2 ⊢
  clear hS hG hX
  go_enter Ybaf.func10, Ybaf.ntmps10
  go_wp2_with fail
  refine (HE2.out _).mono ?_
  rintro e w' ⟨⟨b, rfl⟩, hB⟩
  have HB : Hid (Below w.heap.size w w') := hid (((Below.refl _ _).alloc (Nat.le_refl _) _).trans (hB.mono (by simp)))
  clear hB HE HE2
  go_wp2
  go_ret2
  exact ⟨⟨_, rfl⟩, HB.out⟩

end Go.Proofs.YbulkectmFmt.A
