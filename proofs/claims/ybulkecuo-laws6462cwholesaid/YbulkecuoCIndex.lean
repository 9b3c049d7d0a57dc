import Derived.Test.YbulkecuoRows
import Derived.WalkKit
import Derived.WalkSpells
import Derived.WalkLawsBesides
import Derived.LaidEqlPtr
namespace Go.Proofs.Ybulkecuo.C
open Go.RowKit

/-- Block t is a row of cells, none frozen. -/
def IsBlk (w : World) (t : Nat) : Prop := ∃ c e, w.heap[t]? = some (.cells c e (0, 0))
def P (t : Nat) : Value := .pointer (some ⟨t, 0, none⟩)

theorem info33 : ∃ j, Yba.prog.info? 33 = some j ∧ j.size ≠ 0 := by
  have h : (Yba.prog.info? 33).map (·.size) = some 13 := by kernel_rfl
  obtain ⟨i, hi, hb⟩ := Option.map_eq_some_iff.1 h
  exact ⟨i, hi, by omega⟩

theorem eql_ptr (w : World) (a b : Nat) (ha : IsBlk w a) (hb : IsBlk w b) :
    (binOp .eql 47 (.pointer (some ⟨a, 0, none⟩)) (.pointer (some ⟨b, 0, none⟩))).run Yba.prog w = .ok (.bool (decide (a = b))) w := by
  obtain ⟨j, hj, hs⟩ := info33
  by_cases e : a = b
  · subst e
    simpa using run_eql_ptr_same (P := Yba.prog) w ⟨a, 0, none⟩ Yba.underlying47 hj
  · obtain ⟨ca, ta, ha⟩ := ha
    obtain ⟨cb, tb, hb⟩ := hb
    simpa [e] using run_eql_ptr_other (P := Yba.prog) w Yba.underlying47 hj hs (a := ⟨a, 0, none⟩) (b := ⟨b, 0, none⟩) (fun h => e (by injection h)) ha hb

set_option maxHeartbeats 400000 in
theorem index_miss (g n cap : Nat) (ts : List Nat) (t : Nat) (w : World) (hl : ts.length = n) (hn : n ≤ 65536)
    (hc : ∀ j (h : j < ts.length), w.cell? ⟨g, j, none⟩ = some (P ts[j])) (ht : IsBlk w t) (hts : ∀ x ∈ ts, IsBlk w x) (hm : t ∉ ts) :
    Calls Yba.prog 28 #[.slice (some ⟨g, 0, none⟩) n cap, .pointer (some ⟨t, 0, none⟩)] w fun e w' => e = .returned (.int .i64 (-1)) ∧ w' = w := by
  go_enter Yba.func28, Yba.ntmps28
  go_wp2
  go_loop [8] (fun i => ∃ k : Nat, k ≤ n ∧ i = .int .i64 k) (fun i => n - (intOf i).toNat)
  case atStart => exact ⟨0, Nat.zero_le _, rfl⟩
  case round =>
    obtain ⟨k, hk, rfl⟩ := hrel
    by_cases hlt : k < n
    · have hkl : k < ts.length := by omega
      obtain ⟨x, hx⟩ : ∃ x, x = ts[k] := ⟨_, rfl⟩
      have hcell : w.cell? ⟨g, k, none⟩ = some (.pointer (some ⟨x, 0, none⟩)) := by rw [hx]; exact hc k hkl
      have hxm : x ∈ ts := by rw [hx]; exact List.getElem_mem _
      have hne : t ≠ x := fun e => hm (by rw [e]; exact hxm)
      have heq := eql_ptr w t x ht (hts x hxm)
      rw [decide_eq_false hne] at heq
      clear hx hc hts hm
      go_wp2
      go_round
      case rel => exact ⟨k + 1, by omega, by go_num⟩
      case measure => simp [intOf]; omega
    · go_wp2
      go_ret
      exact ⟨rfl, rfl⟩

set_option maxHeartbeats 400000 in
theorem index_hit (g n cap : Nat) (ts : List Nat) (t : Nat) (w : World) (hl : ts.length = n) (hn : n ≤ 65536)
    (hc : ∀ j (h : j < ts.length), w.cell? ⟨g, j, none⟩ = some (P ts[j])) (ht : IsBlk w t) (hts : ∀ x ∈ ts, IsBlk w x) (hm : t ∈ ts) :
    Calls Yba.prog 28 #[.slice (some ⟨g, 0, none⟩) n cap, .pointer (some ⟨t, 0, none⟩)] w fun e w' => (∃ r : Nat, r < n ∧ e = .returned (.int .i64 r)) ∧ w' = w := by
  go_enter Yba.func28, Yba.ntmps28
  go_wp2
  go_loop [8] (fun i => ∃ k : Nat, k ≤ n ∧ i = .int .i64 k ∧ t ∈ ts.drop k) (fun i => n - (intOf i).toNat)
  case atStart => exact ⟨0, Nat.zero_le _, rfl, by simpa using hm⟩
  case round =>
    obtain ⟨k, hk, rfl, hin⟩ := hrel
    have hlt : k < n := by
      rcases Nat.lt_or_ge k n with h | h
      · exact h
      · rw [List.drop_eq_nil_of_le (by omega)] at hin
        cases hin
    have hkl : k < ts.length := by omega
    obtain ⟨x, hx⟩ : ∃ x, x = ts[k] := ⟨_, rfl⟩
    have hcell : w.cell? ⟨g, k, none⟩ = some (.pointer (some ⟨x, 0, none⟩)) := by rw [hx]; exact hc k hkl
    have hxm : x ∈ ts := by rw [hx]; exact List.getElem_mem _
    have heq := eql_ptr w t x ht (hts x hxm)
    rw [List.drop_eq_getElem_cons hkl, ← hx] at hin
    by_cases hne : t = x
    · rw [decide_eq_true hne] at heq
      clear hx hc hts hm hne hin
      go_wp2
      go_ret
      exact ⟨⟨k, hlt, rfl⟩, rfl⟩
    · rw [decide_eq_false hne] at heq
      have hin' : t ∈ ts.drop (k + 1) := by
        rcases List.mem_cons.1 hin with h | h
        · exact absurd h hne
        · exact h
      clear hx hc hts hm hne hin
      go_wp2
      go_round
      case rel => exact ⟨k + 1, by omega, by go_num, hin'⟩
      case measure => simp [intOf]; omega

set_option maxHeartbeats 400000 in
theorem index_nil (t : Nat) (w : World) :
    Calls Yba.prog 28 #[.slice none 0 0, .pointer (some ⟨t, 0, none⟩)] w fun e w' => e = .returned (.int .i64 (-1)) ∧ w' = w := by
  go_enter Yba.func28, Yba.ntmps28
  go_wp2
  refine wp_loop_rounds 1 ?_
  rw [rounds_succ]
  go_wp2
  go_ret
  exact ⟨rfl, rfl⟩

set_option maxHeartbeats 400000 in
/-- slices.Contains on a row of pointers that is nil or the call's own. -/
theorem contains_any (base : Nat) (v : Value) (n : Nat) (ts : List Nat) (t : Nat) (w : World) (hown : w.ownsRow base 47 1 v n (ts.map P)) (hn : n ≤ 65536) (ht : IsBlk w t) (hts : ∀ x ∈ ts, IsBlk w x) :
    Calls Yba.prog 27 #[v, .pointer (some ⟨t, 0, none⟩)] w fun e w' => e = .returned (.bool (decide (t ∈ ts))) ∧ w' = w := by
  have hl : ts.length = n := by simpa using hown.1
  rcases hown.2 with ⟨rfl, rfl⟩ | ⟨g, cap, cur, rfl, _, _⟩
  · have : ts = [] := List.length_eq_zero_iff.1 hl
    subst this
    go_enter Yba.func27, Yba.ntmps27
    go_wp2_with fail
    refine (index_nil t w).mono ?_
    rintro e w' ⟨rfl, rfl⟩
    go_wp2
    go_ret
    exact ⟨rfl, rfl⟩
  · have hc : ∀ j (h : j < ts.length), w.cell? ⟨g, j, none⟩ = some (P ts[j]) := fun j h => by
      rw [hown.cellAt j (by omega)]
      simp [h]
    clear hown
    by_cases hm : t ∈ ts
    · rw [decide_eq_true hm]
      go_enter Yba.func27, Yba.ntmps27
      go_wp2_with fail
      refine (index_hit g n cap ts t w hl hn hc ht hts hm).mono ?_
      rintro e w' ⟨⟨r, hr, rfl⟩, rfl⟩
      clear hm hts hc hl
      go_wp2
      go_ret
      exact ⟨rfl, rfl⟩
    · rw [decide_eq_false hm]
      go_enter Yba.func27, Yba.ntmps27
      go_wp2_with fail
      refine (index_miss g n cap ts t w hl hn hc ht hts hm).mono ?_
      rintro e w' ⟨rfl, rfl⟩
      clear hm hts hc hl
      go_wp2
      go_ret
      exact ⟨rfl, rfl⟩

end Go.Proofs.Ybulkecuo.C
