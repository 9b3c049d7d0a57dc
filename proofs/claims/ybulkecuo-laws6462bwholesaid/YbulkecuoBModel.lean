import Derived.Test.YbulkecuoBHeld
namespace Go.Proofs.Ybulkecuo.B
open Go.RowKit Go.Deep

/-- What the law's own model asks of holder i. -/
def mf1 (A B : Nat → Bool) (y : Nat) (m : Int) (i : Nat) : Bool := decide (i = y) || (!B i && !(A i && !(m == 1)))
def mf (A B : Nat → Bool) (y : Nat) (m : Int) : Bool := (List.range 8).all (mf1 A B y m)

theorem mf_true {A B : Nat → Bool} {y : Nat} {m : Int} (h : ∀ i, i < 8 → mf1 A B y m i = true) : mf A B y m = true := by
  unfold mf; rw [List.all_eq_true]; intro i hi; exact h i (List.mem_range.1 hi)
theorem mf_false {A B : Nat → Bool} {y : Nat} {m : Int} {i : Nat} (hi : i < 8) (h : mf1 A B y m i = false) : mf A B y m = false := by
  unfold mf; rw [List.all_eq_false]; exact ⟨i, List.mem_range.2 hi, by simp [h]⟩

set_option maxRecDepth 100000 in
set_option maxHeartbeats 1000000 in
theorem model_fits (SB XB y : Nat) (m : Int) (A B : Nat → Bool) (tS tX : TypeId) (w : World) (hA : w.rowIs SB tS 8 (fun i => .bool (A i))) (hB : w.rowIs XB tX 8 (fun i => .bool (B i))) :
    Calls Yba.prog 12 #[.pointer (some ⟨SB, 0, none⟩), .pointer (some ⟨XB, 0, none⟩), .int .i64 (y : Int), .int .u8 m] w fun e w' => e = .returned (.bool (mf A B y m)) ∧ w' = w := by
  go_enter Yba.func12, Yba.ntmps12
  go_wp2
  go_loopw [9] (fun i wr => ∃ k : Nat, k ≤ 8 ∧ i = .int .i64 k ∧ wr = w ∧ ∀ i, i < k → mf1 A B y m i = true) (fun i _ => 8 - (intOf i).toNat)
  case atStart => exact ⟨0, Nat.zero_le _, rfl, rfl, fun i hi => absurd hi (by omega)⟩
  case round =>
    obtain ⟨k, hk, rfl, rfl, hall⟩ := hrel
    have HA := hid hall
    clear hall
    by_cases hlt : k < 8
    · have c1 := hA.cell hlt
      have c2 := hB.cell hlt
      have i0 : (0 : Int) ≤ (k : Int) := by omega
      have i1 : (k : Int) < 8 := by omega
      by_cases hy : k = y
      · have hyd : ((k : Int) == (y : Int)) = true := by simp [hy]
        have HY := hid hy
        clear hy
        go_wp2
        go_roundw
        case rel => exact ⟨k + 1, by omega, by go_num, by trivial, fun i hi => by
          by_cases e : i = k
          · subst e; simp [mf1, HY.out]
          · exact HA.out i (by omega)⟩
        case measure => simp [intOf]; omega
      · have hyd : ((k : Int) == (y : Int)) = false := by simp; omega
        obtain ⟨a, ha⟩ : ∃ a, a = A k := ⟨_, rfl⟩
        obtain ⟨b, hb⟩ : ∃ b, b = B k := ⟨_, rfl⟩
        have HM : Hid (mf1 A B y m k = (!b && !(a && !(m == 1)))) := hid (by unfold mf1; rw [decide_eq_false hy, ← ha, ← hb]; rfl)
        rw [← ha] at c1
        rw [← hb] at c2
        clear ha hb hy
        cases b with
        | true =>
          go_wp2
          go_ret
          exact ⟨ret_bool (mf_false hlt (by rw [HM.out]; rfl)).symm, rfl⟩
        | false =>
          cases a with
          | false =>
            go_wp2
            go_roundw
            case rel => exact ⟨k + 1, by omega, by go_num, by trivial, fun i hi => by
              by_cases e : i = k
              · subst e; rw [HM.out]; rfl
              · exact HA.out i (by omega)⟩
            case measure => simp [intOf]; omega
          | true =>
            by_cases hm : m = 1
            · have hmd : (m == 1) = true := by simp [hm]
              rw [hmd] at HM
              clear hm
              go_wp2
              go_roundw
              case rel => exact ⟨k + 1, by omega, by go_num, by trivial, fun i hi => by
                by_cases e : i = k
                · subst e; rw [HM.out]; rfl
                · exact HA.out i (by omega)⟩
              case measure => simp [intOf]; omega
            · have hmd : (m == 1) = false := by simp [hm]
              rw [hmd] at HM
              clear hm
              go_wp2
              go_ret
              exact ⟨ret_bool (mf_false hlt (by rw [HM.out]; rfl)).symm, rfl⟩
    · have hk8 : k = 8 := by omega
      subst hk8
      go_wp2
      go_ret
      exact ⟨ret_bool (mf_true HA.out).symm, rfl⟩

end Go.Proofs.Ybulkecuo.B
