import Derived.Test.YbulkecuoCStands
namespace Go.Proofs.Ybulkecuo.C
open Go.RowKit

theorem hid {p : Prop} (h : p) : Hid p := h

/-- The model's own tables. -/
structure Tables (w : World) (m AdjB StB : Nat) (Ad : Nat → Nat) (A : Nat → Nat → Bool) (S : Nat → Int) : Prop where
  st : ∀ i, i < m → w.cell? ⟨StB, i, none⟩ = some (.int .u8 (S i))
  adj : ∀ i, i < m → w.cell? ⟨AdjB, i, none⟩ = some (.slice (some ⟨Ad i, 0, none⟩) m m)
  row : ∀ i j, i < m → j < m → w.cell? ⟨Ad i, j, none⟩ = some (.bool (A i j))

set_option maxRecDepth 100000 in
set_option maxHeartbeats 1000000 in
theorem model_any (w : World) (m AdjB StB : Nat) (Ad : Nat → Nat) (A : Nat → Nat → Bool) (S : Nat → Int) (h : Tables w m AdjB StB Ad A S) (L : Nat → List Nat) (hA : ∀ a b, a < m → b < m → A a b = decide (b ∈ L a))
    (_hm : m ≤ 2000) (I k : Nat) (ix : Nat → Nat) (hk : k ≤ 65536) (hix : ∀ j, j < k → ix j < m) (hI : ∀ j, j < k → w.cell? ⟨I, j, none⟩ = some (.int .i64 (ix j))) :
    Calls Yba.prog 14 #[.slice (some ⟨AdjB, 0, none⟩) m m, .slice (some ⟨StB, 0, none⟩) m m, .slice (some ⟨I, 0, none⟩) k k] w fun e w' => e = .returned (.bool (standsTo S L ix k k)) ∧ w' = w := by
  go_enter Yba.func14, Yba.ntmps14
  go_wp2
  go_loop [8] (fun i => ∃ q : Nat, q ≤ k ∧ i = .int .i64 q ∧ standsTo S L ix k q = true) (fun i => k - (intOf i).toNat)
  case atStart => exact ⟨0, Nat.zero_le _, rfl, by simp [standsTo]⟩
  case round =>
    obtain ⟨q, hq, rfl, hst⟩ := hrel
    by_cases hlt : q < k
    · obtain ⟨a, ha⟩ : ∃ a, a = ix q := ⟨_, rfl⟩
      obtain ⟨r, hr⟩ : ∃ r, r = (q + 1) % k := ⟨_, rfl⟩
      have hmod : r < k := by rw [hr]; exact Nat.mod_lt _ (by omega)
      obtain ⟨b, hb⟩ : ∃ b, b = ix r := ⟨_, rfl⟩
      have hal : a < m := by rw [ha]; exact hix q hlt
      have hbl : b < m := by rw [hb]; exact hix r hmod
      have cA : w.cell? ⟨I, q, none⟩ = some (.int .i64 (a : Int)) := by rw [ha]; exact hI q hlt
      have cB : w.cell? ⟨I, r, none⟩ = some (.int .i64 (b : Int)) := by rw [hb]; exact hI r hmod
      have c0 := hI 0 (by omega)
      have s1 := h.st a hal
      have s2 := h.adj a hal
      have s3 := h.row a b hal hbl
      have HR : Hid (okB S L (ix q) (ix ((q + 1) % k)) = okB S L a b) := hid (by rw [← hr, ← hb, ← ha])
      have hAab := hA a b hal hbl
      have HK : Hid (okB S L a b = ((S a != 3) && A a b)) := hid (by rw [hAab]; rfl)
      obtain ⟨sa, hsa⟩ : ∃ sa, sa = S a := ⟨_, rfl⟩
      obtain ⟨t, ht⟩ : ∃ t, t = A a b := ⟨_, rfl⟩
      rw [← hsa] at s1 HK
      rw [← ht] at s3 HK
      have hnxt : q + 1 < k → r = q + 1 := fun h1 => by rw [hr]; exact Nat.mod_eq_of_lt h1
      have hzer : ¬ q + 1 < k → r = 0 := fun h1 => by rw [hr, show q + 1 = k from by omega]; exact Nat.mod_self k
      clear ha hb hr hAab hsa ht hA hI h
      by_cases h1 : q + 1 < k
      · have hrr := hnxt h1
        subst hrr
        clear hnxt hzer
        by_cases hs : sa = 3
        · subst hs
          have HF : Hid (standsTo S L ix k k = false) := hid (standsTo_false hlt (by rw [HR.out, HK.out]; rfl))
          go_wp2
          go_ret
          exact ⟨ret_bool HF.out.symm, rfl⟩
        · have hs' : (sa == 3) = false := by simpa using hs
          cases t with
          | true =>
            have HO : Hid (standsTo S L ix k (q + 1) = true) := hid (by rw [standsTo_succ, hst, HR.out, HK.out]; simp [hs])
            clear hs
            go_wp2
            go_round
            case rel => exact ⟨q + 1, by omega, by go_num, HO.out⟩
            case measure => simp [intOf]; omega
          | false =>
            have HF : Hid (standsTo S L ix k k = false) := hid (standsTo_false hlt (by rw [HR.out, HK.out]; simp))
            clear hs
            go_wp2
            go_ret
            exact ⟨ret_bool HF.out.symm, rfl⟩
      · have hrr := hzer h1
        subst hrr
        clear hnxt hzer c0
        by_cases hs : sa = 3
        · subst hs
          have HF : Hid (standsTo S L ix k k = false) := hid (standsTo_false hlt (by rw [HR.out, HK.out]; rfl))
          go_wp2
          go_ret
          exact ⟨ret_bool HF.out.symm, rfl⟩
        · have hs' : (sa == 3) = false := by simpa using hs
          cases t with
          | true =>
            have HO : Hid (standsTo S L ix k (q + 1) = true) := hid (by rw [standsTo_succ, hst, HR.out, HK.out]; simp [hs])
            clear hs
            go_wp2
            go_round
            case rel => exact ⟨q + 1, by omega, by go_num, HO.out⟩
            case measure => simp [intOf]; omega
          | false =>
            have HF : Hid (standsTo S L ix k k = false) := hid (standsTo_false hlt (by rw [HR.out, HK.out]; simp))
            clear hs
            go_wp2
            go_ret
            exact ⟨ret_bool HF.out.symm, rfl⟩
    · have hqk : q = k := by omega
      subst hqk
      go_wp2
      go_ret
      exact ⟨rfl, rfl⟩

end Go.Proofs.Ybulkecuo.C
