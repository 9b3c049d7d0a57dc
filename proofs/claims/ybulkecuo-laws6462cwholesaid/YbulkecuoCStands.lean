import Derived.Test.YbulkecuoCBlocked
namespace Go.Proofs.Ybulkecuo.C
open Go.RowKit

theorem ret_bool {a b : Bool} (h : a = b) : Ending.returned (.bool a) = .returned (.bool b) := by rw [h]

/-- What the store holds of the transactions, their lives and a cycle. -/
structure Known (w : World) (m base : Nat) (T Lf : Nat → Nat) (S : Nat → Int) (Bv : Nat → Value) (L : Nat → List Nat) : Prop where
  life1 : ∀ i, i < m → w.cell? ⟨Lf i, 1, none⟩ = some (.pointer (some ⟨T i, 0, none⟩))
  life4 : ∀ i, i < m → w.cell? ⟨Lf i, 4, none⟩ = some (.int .u8 (S i))
  txn8 : ∀ i, i < m → w.cell? ⟨T i, 8, none⟩ = some (Bv i)
  own : ∀ i, i < m → w.ownsRow base 47 1 (Bv i) (L i).length (((L i).map T).map P)
  llt : ∀ i, i < m → ∀ q ∈ L i, q < m
  len : ∀ i, i < m → (L i).length ≤ 65536
  blk : ∀ i, i < m → IsBlk w (T i)

theorem lt_of_cell {w : World} {b o : Nat} {v : Value} (h : w.cell? ⟨b, o, none⟩ = some v) : b < w.heap.size := by
  rcases Nat.lt_or_ge b w.heap.size with h1 | h1
  · exact h1
  · simp [World.cell?, Array.getElem?_eq_none h1] at h

theorem cell_keep {w w' : World} (hb : Below w.heap.size w w') {b o : Nat} {v : Value} (h : w.cell? ⟨b, o, none⟩ = some v) : w'.cell? ⟨b, o, none⟩ = some v :=
  (hb.cell (p := ⟨b, o, none⟩) (lt_of_cell h)).trans h

theorem blk_keep {w w' : World} (hb : Below w.heap.size w w') {t : Nat} (h : IsBlk w t) : IsBlk w' t := by
  obtain ⟨c, e, h⟩ := h
  exact ⟨c, e, (hb.block t (Array.getElem?_eq_some_iff.1 h).1).trans h⟩

theorem own_keep {w w' : World} (hb : Below w.heap.size w w') {base : Nat} {e : TypeId} {size n : Nat} {v : Value} {xs : List Value} (h : w.ownsRow base e size v n xs) : w'.ownsRow base e size v n xs :=
  h.kept (row := none) ⟨hb.os, hb.tape, hb.output, hb.size, fun k hk _ => hb.block k hk⟩ (by cases v.ownBlock <;> simp)

theorem Known.keep {w w' : World} {m base : Nat} {T Lf : Nat → Nat} {S : Nat → Int} {Bv : Nat → Value} {L : Nat → List Nat} (h : Known w m base T Lf S Bv L) (hb : Below w.heap.size w w') : Known w' m base T Lf S Bv L :=
  ⟨fun i hi => cell_keep hb (h.life1 i hi), fun i hi => cell_keep hb (h.life4 i hi), fun i hi => cell_keep hb (h.txn8 i hi), fun i hi => own_keep hb (h.own i hi), h.llt, h.len, fun i hi => blk_keep hb (h.blk i hi)⟩

theorem Known.drewN {w : World} {m base : Nat} {T Lf : Nat → Nat} {S : Nat → Int} {Bv : Nat → Value} {L : Nat → List Nat} (h : Known w m base T Lf S Bv L) (nn : Nat) : Known (w.drewN nn) m base T Lf S Bv L :=
  ⟨h.life1, h.life4, h.txn8, h.own, h.llt, h.len, h.blk⟩

/-- One step of the cycle stands: the transaction has not ended, and waits for the next. -/
def okB (S : Nat → Int) (L : Nat → List Nat) (a b : Nat) : Bool := (S a != 3) && decide (b ∈ L a)

theorem mem_map_inj {T : Nat → Nat} {m b : Nat} {l : List Nat} (hT : ∀ i j, i < m → j < m → T i = T j → i = j) (hl : ∀ q ∈ l, q < m) (hb : b < m) : (T b ∈ l.map T) ↔ b ∈ l := by
  constructor
  · intro h
    obtain ⟨q, hq, e⟩ := List.mem_map.1 h
    rw [hT b q hb (hl q hq) e.symm]
    exact hq
  · intro h
    exact List.mem_map.2 ⟨b, h, rfl⟩

/-- blockedBy at two known lives. -/
theorem blocked_known {w : World} {m base : Nat} {T Lf : Nat → Nat} {S : Nat → Int} {Bv : Nat → Value} {L : Nat → List Nat} (h : Known w m base T Lf S Bv L) (hT : ∀ i j, i < m → j < m → T i = T j → i = j) (a b : Nat) (ha : a < m) (hb : b < m) :
    Calls Yba.prog 26 #[.pointer (some ⟨Lf a, 0, none⟩), .pointer (some ⟨Lf b, 0, none⟩)] w fun e w' => e = .returned (.bool (okB S L a b)) ∧ ∃ n, w' = w.drewN n := by
  by_cases hs : S a = 3
  · have c4 := h.life4 a ha
    rw [hs] at c4
    refine (blocked_ended (Lf a) (Lf b) w c4).mono ?_
    rintro e w' ⟨rfl, hw⟩
    exact ⟨by simp [okB, hs], hw⟩
  · refine (blocked_any base (Lf a) (Lf b) (T a) (T b) (S a) (Bv a) (L a).length ((L a).map T) w (h.life4 a ha) (by simpa using hs) (h.life1 a ha) (h.txn8 a ha) (h.life1 b hb) (h.own a ha) (h.len a ha) (h.blk b hb) ?_).mono ?_
    · intro x hx
      obtain ⟨q, hq, rfl⟩ := List.mem_map.1 hx
      exact h.blk q (h.llt a ha q hq)
    · rintro e w' ⟨rfl, hw⟩
      refine ⟨?_, hw⟩
      have e1 : decide (T b ∈ (L a).map T) = decide (b ∈ L a) := by
        rw [decide_eq_decide]
        exact mem_map_inj hT (h.llt a ha) hb
      rw [e1]
      simp [okB, hs]

set_option maxHeartbeats 400000 in
theorem among_any (l : Value) (w : World) : Calls Yba.prog 23 #[l] w fun e w' => e = .returned (.bool true) ∧ w' = w := by
  go_enter Yba.func23, Yba.ntmps23
  go_wp2
  go_ret
  exact ⟨rfl, rfl⟩

/-- The first q steps of the cycle stand. -/
def standsTo (S : Nat → Int) (L : Nat → List Nat) (ix : Nat → Nat) (k q : Nat) : Bool := (List.range q).all fun j => okB S L (ix j) (ix ((j + 1) % k))

theorem standsTo_succ (S : Nat → Int) (L : Nat → List Nat) (ix : Nat → Nat) (k q : Nat) : standsTo S L ix k (q + 1) = (standsTo S L ix k q && okB S L (ix q) (ix ((q + 1) % k))) := by
  simp [standsTo, List.range_succ]

theorem standsTo_false {S : Nat → Int} {L : Nat → List Nat} {ix : Nat → Nat} {k q : Nat} (hq : q < k) (h : okB S L (ix q) (ix ((q + 1) % k)) = false) : standsTo S L ix k k = false := by
  simp only [standsTo, List.all_eq_false]
  exact ⟨q, List.mem_range.2 hq, by simp [h]⟩

set_option maxRecDepth 100000 in
set_option maxHeartbeats 1000000 in
theorem stands_any (w : World) (m base : Nat) (T Lf : Nat → Nat) (S : Nat → Int) (Bv : Nat → Value) (L : Nat → List Nat) (C k : Nat) (ix : Nat → Nat) (h : Known w m base T Lf S Bv L) (hT : ∀ i j, i < m → j < m → T i = T j → i = j)
    (hk : k ≤ 65536) (hix : ∀ j, j < k → ix j < m) (hc : ∀ j, j < k → w.cell? ⟨C, j * 3, none⟩ = some (.pointer (some ⟨Lf (ix j), 0, none⟩)) ∧ w.cell? ⟨C, j * 3 + 1, none⟩ = some (.int .i64 0) ∧ w.cell? ⟨C, j * 3 + 2, none⟩ = some (.int .i64 0)) :
    Calls Yba.prog 22 #[.slice (some ⟨C, 0, none⟩) k k, .func (.func 23) #[] #[]] w fun e w' => e = .returned (.bool (standsTo S L ix k k)) ∧ Below w.heap.size w w' := by
  go_enter Yba.func22, Yba.ntmps22
  go_wp2
  go_loopw [9] (fun i wr => ∃ q : Nat, q ≤ k ∧ i = .int .i64 q ∧ standsTo S L ix k q = true ∧ Below w.heap.size w wr) (fun i _ => k - (intOf i).toNat)
  case atStart => exact ⟨0, Nat.zero_le _, rfl, by simp [standsTo], Below.refl _ _⟩
  case round =>
    obtain ⟨q, hq, rfl, hst, hbel⟩ := hrel
    by_cases hlt : q < k
    · have hc1 := hc q hlt
      have d0 := cell_keep hbel hc1.1
      have d1 := cell_keep hbel hc1.2.1
      have d2 := cell_keep hbel hc1.2.2
      obtain ⟨r, hr⟩ : ∃ r, r = (q + 1) % k := ⟨_, rfl⟩
      have hmod : r < k := by rw [hr]; exact Nat.mod_lt _ (by omega)
      have hrt : ((q : Int) + 1).tmod (k : Int) = (r : Int) := by
        rw [hr, Int.tmod_eq_emod_of_nonneg (by omega)]
        simp
      have hc2 := cell_keep hbel (hc _ hmod).1
      have hK := (h.keep hbel).keep ((Below.refl _ _).alloc (Nat.le_refl _) (.cells #[.pointer (some ⟨Lf (ix q), 0, none⟩), .int .i64 0, .int .i64 0] 132))
      have hb := fun nn => blocked_known (hK.drewN nn) hT (ix q) (ix r) (hix q hlt) (hix r hmod)
      have hCl := lt_of_cell d0
      have HR : Hid (r = (q + 1) % k) := hr
      clear hc1 hc hr
      go_wp2
      go_quiet (first | (go_at_call 23; exact Calls.quiet_of_same (among_any _ _)) | (go_at_call 26; exact Calls.quiet_of (hb _)))
      have hbel2 : Below w.heap.size w ((wr.alloc (.cells #[.pointer (some ⟨Lf (ix q), 0, none⟩), .int .i64 0, .int .i64 0] 132)).drewN nq) := by
        have h1 := hbel.alloc hbel.size (.cells #[.pointer (some ⟨Lf (ix q), 0, none⟩), .int .i64 0, .int .i64 0] 132)
        exact ⟨h1.os, h1.tape, h1.output, h1.size, h1.block⟩
      clear hK hb d0 d1 d2 hc2
      cases ho : okB S L (ix q) (ix r) with
      | true =>
        go_wp2
        go_roundw
        case rel =>
          refine ⟨q + 1, by omega, by go_num, ?_, hbel2⟩
          rw [standsTo_succ, hst, ← HR.out, ho]
          rfl
        case measure => simp [intOf]; omega
      | false =>
        have hfin : standsTo S L ix k k = false := standsTo_false hlt (by rw [← HR.out]; exact ho)
        go_wp2
        go_ret
        exact ⟨ret_bool hfin.symm, hbel2⟩
    · have hqk : q = k := by omega
      subst hqk
      go_wp2
      go_ret
      exact ⟨ret_bool hst.symm, hbel⟩

end Go.Proofs.Ybulkecuo.C
