import Derived.Test.YbulkecuoBBase
namespace Go.Proofs.Ybulkecuo.B
open Go.RowKit

/-- The holders' cells: two a holder. -/
def flat : List (Nat × Int) → List Value
  | [] => []
  | e :: es => .pointer (some ⟨e.1, 0, none⟩) :: .int .u8 e.2 :: flat es

theorem flat_length (es : List (Nat × Int)) : (flat es).length = es.length * 2 := by
  induction es with
  | nil => rfl
  | cons e es ih => simp [flat, ih]; omega

theorem flat_append (a b : List (Nat × Int)) : flat (a ++ b) = flat a ++ flat b := by
  induction a with
  | nil => rfl
  | cons e es ih => simp [flat, ih]

theorem flat_get (es : List (Nat × Int)) : ∀ (j : Nat) (h : j < es.length), (flat es)[j * 2]? = some (.pointer (some ⟨es[j].1, 0, none⟩)) ∧ (flat es)[j * 2 + 1]? = some (.int .u8 es[j].2) := by
  induction es with
  | nil => intro j h; cases h
  | cons e es ih =>
    intro j h
    cases j with
    | zero => exact ⟨rfl, rfl⟩
    | succ j =>
      have hj : j < es.length := by simpa using h
      have := ih j hj
      rw [show (j + 1) * 2 = j * 2 + 2 from by omega]
      simpa [flat] using this

/-- The holders' cells where they lie. -/
theorem own_cells {w : World} {base g n cap : Nat} {es : List (Nat × Int)} (h : w.ownsRow base 58 2 (.slice (some ⟨g, 0, none⟩) n cap) n (flat es)) (j : Nat) (hj : j < es.length) :
    w.cell? ⟨g, j * 2, none⟩ = some (.pointer (some ⟨es[j].1, 0, none⟩)) ∧ w.cell? ⟨g, j * 2 + 1, none⟩ = some (.int .u8 es[j].2) := by
  have hl : es.length * 2 = n * 2 := by rw [← flat_length]; exact h.1
  have hg := flat_get es j hj
  exact ⟨(h.cellAt (j * 2) (by omega)).trans hg.1, (h.cellAt (j * 2 + 1) (by omega)).trans hg.2⟩

/-- The index of the first that p says yes to; -1: none. -/
def ixv (p : Nat × Int → Bool) (es : List (Nat × Int)) : Int := match es.findIdx? p with | some j => (j : Int) | none => -1

theorem ixv_hit {p : Nat × Int → Bool} {es : List (Nat × Int)} {k : Nat} (hk : k < es.length) (h : p es[k] = true) (hb : ∀ j (hj : j < es.length), j < k → p es[j] = false) : ixv p es = (k : Int) := by
  have : es.findIdx? p = some k := by
    rw [List.findIdx?_eq_some_iff_getElem]
    exact ⟨hk, h, fun j hj => by simp [hb j (by omega) hj]⟩
  simp [ixv, this]
theorem ixv_miss {p : Nat × Int → Bool} {es : List (Nat × Int)} (hb : ∀ j (hj : j < es.length), p es[j] = false) : ixv p es = -1 := by
  have : es.findIdx? p = none := by
    rw [List.findIdx?_eq_none_iff]
    intro x hx
    obtain ⟨j, hj, rfl⟩ := List.mem_iff_getElem.1 hx
    exact hb j hj
  simp [ixv, this]
theorem ixv_any (p : Nat × Int → Bool) (es : List (Nat × Int)) : decide (0 ≤ ixv p es) = es.any p := by
  unfold ixv
  cases h : es.findIdx? p with
  | none =>
    rw [List.findIdx?_eq_none_iff] at h
    have : es.any p = false := by rw [List.any_eq_false]; intro x hx; simp [h x hx]
    simp [this]
  | some j =>
    rw [List.findIdx?_eq_some_iff_getElem] at h
    obtain ⟨hj, hp, _⟩ := h
    have : es.any p = true := List.any_eq_true.2 ⟨_, List.getElem_mem hj, hp⟩
    simp [this]

set_option maxRecDepth 100000 in
set_option maxHeartbeats 1000000 in
theorem index18_some (base g n cap x yb mb : Nat) (o : Int) (es : List (Nat × Int)) (w : World) (hown : w.ownsRow base 58 2 (.slice (some ⟨g, 0, none⟩) n cap) n (flat es)) (hl : es.length = n) (hn : n ≤ 65536) (hes : ∀ e ∈ es, IsBlk w e.1) (hx : IsBlk w x)
    (cy : w.cell? ⟨yb, 0, none⟩ = some (.pointer (some ⟨x, 0, none⟩))) (cm : w.cell? ⟨mb, 0, none⟩ = some (.int .u8 o)) :
    Calls Yba.prog 24 #[.slice (some ⟨g, 0, none⟩) n cap, .func (.func 18) #[] #[.pointer (some ⟨yb, 0, none⟩), .pointer (some ⟨mb, 0, none⟩)]] w fun e w' => e = .returned (.int .i64 (ixv (fun e => blk e.1 e.2 x o) es)) ∧ Below w.heap.size w w' := by
  go_enter Yba.func24, Yba.ntmps24
  go_wp2
  go_loopw [8] (fun i wr => ∃ k : Nat, k ≤ n ∧ i = .int .i64 k ∧ (∀ j (hj : j < es.length), j < k → (fun e : Nat × Int => blk e.1 e.2 x o) es[j] = false) ∧ Below w.heap.size w wr) (fun i _ => n - (intOf i).toNat)
  case atStart => exact ⟨0, Nat.zero_le _, rfl, fun _ _ h => absurd h (Nat.not_lt_zero _), Below.refl _ _⟩
  case round =>
    obtain ⟨k, hk, rfl, hno, hbel⟩ := hrel
    by_cases hlt : k < n
    · have hkl : k < es.length := by omega
      have hcc := own_cells hown k hkl
      have c0 := (hbel.cell (p := ⟨g, k * 2, none⟩) (lt_of_cell hcc.1)).trans hcc.1
      have c1 := (hbel.cell (p := ⟨g, k * 2 + 1, none⟩) (lt_of_cell hcc.1)).trans hcc.2
      have hbk := hes _ (List.getElem_mem hkl)
      obtain ⟨e, he⟩ : ∃ e, e = es[k] := ⟨_, rfl⟩
      rw [← he] at c0 c1 hbk
      have hcall := clo18 e.1 x yb mb e.2 o wr (blk_keep hbel (blk_lt hbk) hbk) (blk_keep hbel (blk_lt hx) hx) (cell_keep hbel (lt_of_cell cy) cy) (cell_keep hbel (lt_of_cell cm) cm)
      obtain ⟨t, ht⟩ : ∃ t, t = blk e.1 e.2 x o := ⟨_, rfl⟩
      rw [← ht] at hcall
      have HT := hid (show (fun e : Nat × Int => blk e.1 e.2 x o) es[k] = t by rw [← he]; exact ht.symm)
      clear he ht hcc hown hes
      go_wp2_with fail
      refine hcall.mono ?_
      rintro e' w' ⟨rfl, hb'⟩
      have hbel' := hbel.trans (hb'.mono hbel.size)
      clear hcall c0 c1 hb' hbel
      cases t with
      | true =>
        have HF := hid (ixv_hit (p := fun e => blk e.1 e.2 x o) hkl HT.out hno)
        clear hno
        go_wp2
        go_ret
        exact ⟨ret_int HF.out.symm, hbel'⟩
      | false =>
        have HN := hid hno
        clear hno
        go_wp2
        go_roundw
        case rel =>
          refine ⟨k + 1, by omega, by go_num, fun j hj h => ?_, hbel'⟩
          by_cases e2 : j = k
          · subst e2; exact HT.out
          · exact HN.out j hj (by omega)
        case measure => simp [intOf]; omega
    · have HF := hid (ixv_miss (p := fun e => blk e.1 e.2 x o) (es := es) (fun j hj => hno j hj (by omega)))
      clear hno
      go_wp2
      go_ret
      exact ⟨ret_int HF.out.symm, hbel⟩

set_option maxHeartbeats 400000 in
theorem index18_nil (yb mb : Nat) (w : World) :
    Calls Yba.prog 24 #[.slice none 0 0, .func (.func 18) #[] #[.pointer (some ⟨yb, 0, none⟩), .pointer (some ⟨mb, 0, none⟩)]] w fun e w' => e = .returned (.int .i64 (-1)) ∧ w' = w := by
  go_enter Yba.func24, Yba.ntmps24
  go_wp2
  refine wp_loop_rounds 1 ?_
  rw [rounds_succ]
  go_wp2
  go_ret
  exact ⟨rfl, rfl⟩

theorem index18 (base n x yb mb : Nat) (o : Int) (v : Value) (es : List (Nat × Int)) (w : World) (hown : w.ownsRow base 58 2 v n (flat es)) (hn : n ≤ 65536) (hes : ∀ e ∈ es, IsBlk w e.1) (hx : IsBlk w x)
    (cy : w.cell? ⟨yb, 0, none⟩ = some (.pointer (some ⟨x, 0, none⟩))) (cm : w.cell? ⟨mb, 0, none⟩ = some (.int .u8 o)) :
    Calls Yba.prog 24 #[v, .func (.func 18) #[] #[.pointer (some ⟨yb, 0, none⟩), .pointer (some ⟨mb, 0, none⟩)]] w fun e w' => e = .returned (.int .i64 (ixv (fun e => blk e.1 e.2 x o) es)) ∧ Below w.heap.size w w' := by
  have hl : es.length = n := by have := hown.1; rw [flat_length] at this; omega
  rcases hown.2 with ⟨rfl, rfl⟩ | ⟨g, cap, cur, rfl, _, _⟩
  · have : es = [] := List.length_eq_zero_iff.1 hl
    subst this
    refine (index18_nil yb mb w).mono ?_
    rintro e w' ⟨rfl, rfl⟩
    exact ⟨rfl, Below.refl _ _⟩
  · exact index18_some base g n cap x yb mb o es w hown hl hn hes hx cy cm

set_option maxRecDepth 100000 in
set_option maxHeartbeats 1000000 in
theorem index21_some (base g n cap pv nd x : Nat) (es : List (Nat × Int)) (w : World) (hown : w.ownsRow base 58 2 (.slice (some ⟨g, 0, none⟩) n cap) n (flat es)) (hl : es.length = n) (hn : n ≤ 65536) (hes : ∀ e ∈ es, IsBlk w e.1) (hx : IsBlk w x)
    (cp : w.cell? ⟨pv, 0, none⟩ = some (.pointer (some ⟨nd, 0, none⟩))) (cn : w.cell? ⟨nd, 0, none⟩ = some (.pointer (some ⟨x, 0, none⟩))) :
    Calls Yba.prog 24 #[.slice (some ⟨g, 0, none⟩) n cap, .func (.func 21) #[] #[.pointer (some ⟨pv, 0, none⟩)]] w fun e w' => e = .returned (.int .i64 (ixv (fun e => decide (e.1 = x)) es)) ∧ Below w.heap.size w w' := by
  go_enter Yba.func24, Yba.ntmps24
  go_wp2
  go_loopw [8] (fun i wr => ∃ k : Nat, k ≤ n ∧ i = .int .i64 k ∧ (∀ j (hj : j < es.length), j < k → (fun e : Nat × Int => decide (e.1 = x)) es[j] = false) ∧ Below w.heap.size w wr) (fun i _ => n - (intOf i).toNat)
  case atStart => exact ⟨0, Nat.zero_le _, rfl, fun _ _ h => absurd h (Nat.not_lt_zero _), Below.refl _ _⟩
  case round =>
    obtain ⟨k, hk, rfl, hno, hbel⟩ := hrel
    by_cases hlt : k < n
    · have hkl : k < es.length := by omega
      have hcc := own_cells hown k hkl
      have c0 := (hbel.cell (p := ⟨g, k * 2, none⟩) (lt_of_cell hcc.1)).trans hcc.1
      have c1 := (hbel.cell (p := ⟨g, k * 2 + 1, none⟩) (lt_of_cell hcc.1)).trans hcc.2
      have hbk := hes _ (List.getElem_mem hkl)
      obtain ⟨e, he⟩ : ∃ e, e = es[k] := ⟨_, rfl⟩
      rw [← he] at c0 c1 hbk
      have hcall := clo21 e.1 pv nd x e.2 wr (blk_keep hbel (blk_lt hbk) hbk) (blk_keep hbel (blk_lt hx) hx) (cell_keep hbel (lt_of_cell cp) cp) (cell_keep hbel (lt_of_cell cn) cn)
      obtain ⟨t, ht⟩ : ∃ t, t = decide (e.1 = x) := ⟨_, rfl⟩
      rw [← ht] at hcall
      have HT := hid (show (fun e : Nat × Int => decide (e.1 = x)) es[k] = t by rw [← he]; exact ht.symm)
      clear he ht hcc hown hes
      go_wp2_with fail
      refine hcall.mono ?_
      rintro e' w' ⟨rfl, hb'⟩
      have hbel' := hbel.trans (hb'.mono hbel.size)
      clear hcall c0 c1 hb' hbel
      cases t with
      | true =>
        have HF := hid (ixv_hit (p := fun e => decide (e.1 = x)) hkl HT.out hno)
        clear hno
        go_wp2
        go_ret
        exact ⟨ret_int HF.out.symm, hbel'⟩
      | false =>
        have HN := hid hno
        clear hno
        go_wp2
        go_roundw
        case rel =>
          refine ⟨k + 1, by omega, by go_num, fun j hj h => ?_, hbel'⟩
          by_cases e2 : j = k
          · subst e2; exact HT.out
          · exact HN.out j hj (by omega)
        case measure => simp [intOf]; omega
    · have HF := hid (ixv_miss (p := fun e => decide (e.1 = x)) (es := es) (fun j hj => hno j hj (by omega)))
      clear hno
      go_wp2
      go_ret
      exact ⟨ret_int HF.out.symm, hbel⟩

set_option maxHeartbeats 400000 in
theorem index21_nil (pv : Nat) (w : World) :
    Calls Yba.prog 24 #[.slice none 0 0, .func (.func 21) #[] #[.pointer (some ⟨pv, 0, none⟩)]] w fun e w' => e = .returned (.int .i64 (-1)) ∧ w' = w := by
  go_enter Yba.func24, Yba.ntmps24
  go_wp2
  refine wp_loop_rounds 1 ?_
  rw [rounds_succ]
  go_wp2
  go_ret
  exact ⟨rfl, rfl⟩

theorem index21 (base n pv nd x : Nat) (v : Value) (es : List (Nat × Int)) (w : World) (hown : w.ownsRow base 58 2 v n (flat es)) (hn : n ≤ 65536) (hes : ∀ e ∈ es, IsBlk w e.1) (hx : IsBlk w x)
    (cp : w.cell? ⟨pv, 0, none⟩ = some (.pointer (some ⟨nd, 0, none⟩))) (cn : w.cell? ⟨nd, 0, none⟩ = some (.pointer (some ⟨x, 0, none⟩))) :
    Calls Yba.prog 24 #[v, .func (.func 21) #[] #[.pointer (some ⟨pv, 0, none⟩)]] w fun e w' => e = .returned (.int .i64 (ixv (fun e => decide (e.1 = x)) es)) ∧ Below w.heap.size w w' := by
  have hl : es.length = n := by have := hown.1; rw [flat_length] at this; omega
  rcases hown.2 with ⟨rfl, rfl⟩ | ⟨g, cap, cur, rfl, _, _⟩
  · have : es = [] := List.length_eq_zero_iff.1 hl
    subst this
    refine (index21_nil pv w).mono ?_
    rintro e w' ⟨rfl, rfl⟩
    exact ⟨rfl, Below.refl _ _⟩
  · exact index21_some base g n cap pv nd x es w hown hl hn hes hx cp cn

set_option maxHeartbeats 400000 in
theorem contains18 (base n x yb mb : Nat) (o : Int) (v : Value) (es : List (Nat × Int)) (w : World) (hown : w.ownsRow base 58 2 v n (flat es)) (hn : n ≤ 65536) (hes : ∀ e ∈ es, IsBlk w e.1) (hx : IsBlk w x)
    (cy : w.cell? ⟨yb, 0, none⟩ = some (.pointer (some ⟨x, 0, none⟩))) (cm : w.cell? ⟨mb, 0, none⟩ = some (.int .u8 o)) :
    Calls Yba.prog 17 #[v, .func (.func 18) #[] #[.pointer (some ⟨yb, 0, none⟩), .pointer (some ⟨mb, 0, none⟩)]] w fun e w' => e = .returned (.bool (es.any fun e => blk e.1 e.2 x o)) ∧ Below w.heap.size w w' := by
  have hc := index18 base n x yb mb o v es w hown hn hes hx cy cm
  obtain ⟨r, hr⟩ : ∃ r, r = ixv (fun e => blk e.1 e.2 x o) es := ⟨_, rfl⟩
  rw [← ixv_any, ← hr]
  rw [← hr] at hc
  clear hr hown hes
  go_enter Yba.func17, Yba.ntmps17
  go_wp2_with fail
  refine hc.mono ?_
  rintro e w' ⟨rfl, hb⟩
  go_wp2
  go_ret
  exact ⟨rfl, hb⟩

/-- No holder keeps x from a lock in mode o. -/
def fitsL (es : List (Nat × Int)) (x : Nat) (o : Int) : Bool := !(es.any fun e => blk e.1 e.2 x o)

set_option maxHeartbeats 400000 in
/-- 'fits': the captured variable 'held' lies at hd. -/
theorem fits_any (base n x hd : Nat) (o : Int) (v : Value) (es : List (Nat × Int)) (w : World) (ch : w.cell? ⟨hd, 0, none⟩ = some v) (hown : w.ownsRow base 58 2 v n (flat es)) (hn : n ≤ 65536) (hes : ∀ e ∈ es, IsBlk w e.1) (hx : IsBlk w x) :
    Calls Yba.prog 16 #[.pointer (some ⟨x, 0, none⟩), .int .u8 o, .pointer (some ⟨hd, 0, none⟩)] w fun e w' => e = .returned (.bool (fitsL es x o)) ∧ Below w.heap.size w w' := by
  have hb2 : Below w.heap.size w ((w.alloc (.cells #[.pointer (some ⟨x, 0, none⟩)] 47)).alloc (.cells #[.int .u8 o] 55)) := ((Below.refl _ _).alloc (Nat.le_refl _) _).alloc (by simp) _
  have hc := contains18 base n x w.heap.size (w.heap.size + 1) o v es ((w.alloc (.cells #[.pointer (some ⟨x, 0, none⟩)] 47)).alloc (.cells #[.int .u8 o] 55)) (own_keep hb2 hown) hn (fun e he => blk_keep hb2 (blk_lt (hes e he)) (hes e he)) (blk_keep hb2 (blk_lt hx) hx) (by simp) (by simp)
  have hl := lt_of_cell ch
  have hl1 : hd < w.heap.size + 1 := by omega
  have HD := hid (show fitsL es x o = !(es.any fun e => blk e.1 e.2 x o) from rfl)
  obtain ⟨t, ht⟩ : ∃ t, t = (es.any fun e => blk e.1 e.2 x o) := ⟨_, rfl⟩
  rw [← ht] at hc HD
  clear ht hown hes
  go_enter Yba.func16, Yba.ntmps16
  go_wp2_with fail
  refine hc.mono ?_
  rintro e w' ⟨rfl, hb⟩
  go_wp2
  go_ret
  exact ⟨ret_bool HD.out.symm, hb2.trans (hb.mono hb2.size)⟩

end Go.Proofs.Ybulkecuo.B
