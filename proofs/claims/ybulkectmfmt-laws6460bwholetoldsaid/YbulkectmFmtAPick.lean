import Derived.Test.YbulkectmFmtAId
namespace Go.Proofs.YbulkectmFmt.A
set_option linter.unusedVariables false
set_option linter.unusedSimpArgs false
open Go.RowKit Go.Deep

/-- The four weights, in quarters. -/
def flBits : Nat → Nat
  | 1 => 4598175219545276416
  | 2 => 4602678819172646912
  | 3 => 4604930618986332160
  | _ => 4607182418800017408
def fl (q : Nat) : Value := .float .f64 (flBits q)
def bo41 (o : BinOp) (x y : Value) : Sem Value := binOp o 41 x y
theorem toBo41 (o : BinOp) (x y : Value) : binOp o 41 x y = bo41 o x y := rfl

theorem four {q : Nat} (h1 : 1 ≤ q) (h4 : q ≤ 4) : q = 1 ∨ q = 2 ∨ q = 3 ∨ q = 4 := by omega
theorem fl_lss (a b : Nat) (a1 : 1 ≤ a) (a4 : a ≤ 4) (b1 : 1 ≤ b) (b4 : b ≤ 4) (w : World) : (bo41 .lss (fl a) (fl b)).run Ybaf.prog w = .ok (.bool (decide (a < b))) w := by
  rcases four a1 a4 with rfl | rfl | rfl | rfl <;> rcases four b1 b4 with rfl | rfl | rfl | rfl <;> kernel_rfl
theorem fl_gtr (a b : Nat) (a1 : 1 ≤ a) (a4 : a ≤ 4) (b1 : 1 ≤ b) (b4 : b ≤ 4) (w : World) : (bo41 .gtr (fl a) (fl b)).run Ybaf.prog w = .ok (.bool (decide (b < a))) w := by
  rcases four a1 a4 with rfl | rfl | rfl | rfl <;> rcases four b1 b4 with rfl | rfl | rfl | rfl <;> kernel_rfl
theorem fl_neq (a b : Nat) (a1 : 1 ≤ a) (a4 : a ≤ 4) (b1 : 1 ≤ b) (b4 : b ≤ 4) (w : World) : (bo41 .neq (fl a) (fl b)).run Ybaf.prog w = .ok (.bool (decide (a ≠ b))) w := by
  rcases four a1 a4 with rfl | rfl | rfl | rfl <;> rcases four b1 b4 with rfl | rfl | rfl | rfl <;> kernel_rfl
theorem fl_eql (a b : Nat) (a1 : 1 ≤ a) (a4 : a ≤ 4) (b1 : 1 ≤ b) (b4 : b ≤ 4) (w : World) : (bo41 .eql (fl a) (fl b)).run Ybaf.prog w = .ok (.bool (decide (a = b))) w := by
  rcases four a1 a4 with rfl | rfl | rfl | rfl <;> rcases four b1 b4 with rfl | rfl | rfl | rfl <;> kernel_rfl
theorem fl_geq2 (a : Nat) (a1 : 1 ≤ a) (a4 : a ≤ 4) (w : World) : (bo41 .geq (fl a) (.float .f64 4602678819172646912)).run Ybaf.prog w = .ok (.bool (decide (2 ≤ a))) w := by
  rcases four a1 a4 with rfl | rfl | rfl | rfl <;> kernel_rfl
theorem fl_lss2 (a : Nat) (a1 : 1 ≤ a) (a4 : a ≤ 4) (w : World) : (bo41 .lss (fl a) (.float .f64 4602678819172646912)).run Ybaf.prog w = .ok (.bool (decide (a < 2))) w := by
  rcases four a1 a4 with rfl | rfl | rfl | rfl <;> kernel_rfl

theorem eqg_fl (o : BinOp) (x y : Operand) (a b : Nat) (w : World) : (eqGuard o 41 x y (fl a) (fl b)).run Ybaf.prog w = .ok () w := by
  unfold fl eqGuard
  cases o <;> rfl

/-- The weight that a byte draws. -/
def qOf (x : Int) : Nat := (x % 4).toNat + 1
theorem qOf_bound (x : Int) : 1 ≤ qOf x ∧ qOf x ≤ 4 := by unfold qOf; omega

set_option maxHeartbeats 400000 in
theorem weight_any (x : Int) (h0 : 0 ≤ x) (h1 : x ≤ 255) (w : World) : Calls Ybaf.prog 5 #[.int .u8 x] w fun e w' => e = .returned (fl (qOf x)) ∧ w' = w := by
  have hm : x.tmod 4 = x % 4 := Int.tmod_eq_emod_of_nonneg h0
  obtain ⟨r, hr⟩ : ∃ r, r = x % 4 := ⟨_, rfl⟩
  have hq : qOf x = r.toNat + 1 := by unfold qOf; rw [hr]
  rw [hq]
  rw [← hr] at hm
  have hr4 : r = 0 ∨ r = 1 ∨ r = 2 ∨ r = 3 := by omega
  clear hr hq
  rcases hr4 with rfl | rfl | rfl | rfl
  all_goals
    go_enter Ybaf.func5, Ybaf.ntmps5
    go_wp2
    go_ret
    exact ⟨rfl, rfl⟩

/-- What 'pick' draws. -/
def pk (k : Int) (n : Nat) : Nat := k.toNat % (n + 1)
theorem pk_le (k : Int) (n : Nat) : pk k n ≤ n := by unfold pk; have := Nat.mod_lt k.toNat (show 0 < n + 1 by omega); omega
def pickV (k : Int) (n : Nat) : Value := if pk k n = n then .tuple #[.string missing, .int .i64 (-1)] else .tuple #[.string (idStr (pk k n)), .int .i64 (pk k n : Int)]

set_option maxHeartbeats 400000 in
theorem pick_any (k : Int) (h0 : 0 ≤ k) (h1 : k ≤ 65535) (n : Nat) (hn : n ≤ 300) (w : World) : Calls Ybaf.prog 6 #[.int .u16 k, .int .i64 (n : Int)] w fun e w' => e = .returned (pickV k n) ∧ Below w.heap.size w w' := by
  obtain ⟨p, hp⟩ : ∃ p, p = pk k n := ⟨_, rfl⟩
  have hpn : p ≤ n := by rw [hp]; exact pk_le k n
  have e1 : k.tmod ((n : Int) + 1) = (p : Int) := by
    rw [Int.tmod_eq_emod_of_nonneg h0, hp]
    unfold pk
    rw [Int.natCast_emod, Int.toNat_of_nonneg h0]
    rfl
  have e2 : IntKind.i64.wrap ((n : Int) + 1) = (n : Int) + 1 := by rw [IntKind.wrap_i64]; omega
  have e3 : IntKind.i64.wrap (p : Int) = (p : Int) := by rw [IntKind.wrap_i64]; omega
  have e4 : ¬ ((n : Int) + 1 = 0) := by omega
  unfold pickV
  rw [← hp]
  have hid4 := fun W => id_any p (by omega) W
  have HP := hid hp
  clear hp
  by_cases h : p = n
  · subst h
    rw [if_pos rfl]
    go_enter Ybaf.func6, Ybaf.ntmps6
    go_wp2
    go_ret2
    exact ⟨rfl, Below.refl _ _⟩
  · rw [if_neg h]
    have e5 : ((p : Int) == (n : Int)) = false := by simp; omega
    go_enter Ybaf.func6, Ybaf.ntmps6
    go_wp2_with fail
    refine (hid4 _).mono ?_
    rintro e w' ⟨rfl, hB⟩
    go_wp2
    go_ret2
    exact ⟨rfl, hB⟩

end Go.Proofs.YbulkectmFmt.A
