import Derived.Test.YbulkecuoBDelete
namespace Go.Proofs.Ybulkecuo.B
open Go.RowKit Go.Deep

theorem far_cell {w wr : World} {g b o : Nat} {v : Value} (h : w.grownBy wr (some g)) (hne : b ≠ g) (hc : w.cell? ⟨b, o, none⟩ = some v) : wr.cell? ⟨b, o, none⟩ = some v := by
  rw [World.cell?_of_block (w := w) (a := ⟨b, o, none⟩) (h.block b (lt_of_cell hc) (by simpa using hne))]
  exact hc
theorem far_blk {w wr : World} {g t : Nat} (h : w.grownBy wr (some g)) (hne : t ≠ g) (hb : IsBlk w t) : IsBlk wr t := by
  obtain ⟨c, e, hb'⟩ := hb
  exact ⟨c, e, (h.block t (Array.getElem?_eq_some_iff.1 hb').1 (by simpa using hne)).trans hb'⟩

theorem kept_all {x : Nat} {es : List (Nat × Int)} (hno : ∀ j (hj : j < es.length), (decide (es[j].1 = x)) = false) : kept x es es.length = es := by
  rw [kept_take fun j hj _ => hno j hj, List.take_length]

theorem kept_lt {x k j : Nat} {es : List (Nat × Int)} (hk : k < es.length) (hkj : k < j) (hx : es[k].1 = x) : (kept x es j).length < j := by
  have h2 := List.length_take_le j es
  have h1 : ((es.take j).filter fun e => !decide (e.1 = x)).length < (es.take j).length := by
    rw [List.length_filter_lt_length_iff_exists]
    refine ⟨es[k], ?_, by simp [hx]⟩
    rw [List.mem_take_iff_getElem]
    exact ⟨k, by omega, rfl⟩
  unfold kept
  omega

theorem row_setCells (g : Nat) (t : TypeId) (n : Nat) : ∀ (Z : List Value) (o : Nat) (wr : World), (∃ f, wr.rowIs g t n f) → ∃ f, (wr.setCells g o Z).rowIs g t n f
  | [], _, _, h => h
  | v :: Z, o, wr, ⟨f, h⟩ => by
    rw [World.setCells]
    exact row_setCells g t n Z (o + 1) _ ⟨_, h.set o v⟩
theorem grown_setCells (w : World) (g : Nat) : ∀ (Z : List Value) (o : Nat) (wr : World), w.grownBy wr (some g) → w.grownBy (wr.setCells g o Z) (some g)
  | [], _, _, h => h
  | v :: Z, o, wr, h => by
    rw [World.setCells]
    exact grown_setCells w g Z (o + 1) _ (grown_set h o v)

/-- 'clear(s)' on a slice of holders. -/
theorem run_clear58 (w : World) (ty : TypeId) (b o n c : Nat) (hn : 0 < n) (hc : ∀ j, j < n * 2 → (w.cell? ⟨b, o + j, none⟩).isSome = true) (hf : ∀ j, j < n * 2 → w.frozen? ⟨b, o + j, none⟩ = false) :
    (Builtin.clear_ #[49] ty #[.slice (some ⟨b, o, none⟩) n c]).run Yba.prog w = .ok (.tuple #[]) (w.setCells b o (Builtin.zeroCells #[.pointer none, .int .u8 0] n).toList) := by
  have hlen : (Builtin.zeroCells #[.pointer none, .int .u8 0] n).toList.length = n * 2 := by simp [Builtin.zeroCells]
  have h1 : ∀ v ∈ (Builtin.zeroCells #[.pointer none, .int .u8 0] n).toList, v.oneCell' = true := by
    intro v hv
    simp only [Builtin.zeroCells, Array.toList_map, List.mem_map] at hv
    obtain ⟨i, _, rfl⟩ := hv
    have : i % (#[Value.pointer none, Value.int .u8 0] : Array Value).size = 0 ∨ i % (#[Value.pointer none, Value.int .u8 0] : Array Value).size = 1 := by
      show i % 2 = 0 ∨ i % 2 = 1
      omega
    rcases this with h | h <;> rw [h] <;> rfl
  have hst := run_storeCells_cells (P := Yba.prog) b o (Builtin.zeroCells #[.pointer none, .int .u8 0] n).toList 0 w (by rw [hlen]; exact hc) (by rw [hlen]; exact hf) h1
  simp only [Nat.add_zero] at hst
  obtain ⟨m, rfl⟩ : ∃ m, n = m + 1 := ⟨n - 1, by omega⟩
  simp [Builtin.clear_, run_underlying Yba.underlying49, Value.cells, hst]

set_option maxRecDepth 100000 in
set_option maxHeartbeats 2000000 in
theorem delete_hit (base g n cap pv nd x k : Nat) (es : List (Nat × Int)) (w : World) (hown : w.ownsRow base 58 2 (.slice (some ⟨g, 0, none⟩) n cap) n (flat es)) (hl : es.length = n) (hnc : n ≤ cap) (hbg : base ≤ g) (hcm : cap ≤ maxLen) (hn : n ≤ 65536) (hes : ∀ e ∈ es, IsBlk w e.1) (hx : IsBlk w x)
    (cp : w.cell? ⟨pv, 0, none⟩ = some (.pointer (some ⟨nd, 0, none⟩))) (cn : w.cell? ⟨nd, 0, none⟩ = some (.pointer (some ⟨x, 0, none⟩))) (hpv : pv ≠ g) (hnd : nd ≠ g) (hxg : x ≠ g) (heg : ∀ e ∈ es, e.1 ≠ g)
    (hk : k < es.length) (hkx : es[k].1 = x) (hno : ∀ j (hj : j < es.length), j < k → (decide (es[j].1 = x)) = false) :
    Calls Yba.prog 20 #[.slice (some ⟨g, 0, none⟩) n cap, .func (.func 21) #[] #[.pointer (some ⟨pv, 0, none⟩)]] w fun e w' => ∃ v', e = .returned v' ∧ w'.ownsRow base 58 2 v' (kept x es es.length).length (flat (kept x es es.length)) ∧ v'.ownBlock = some g ∧ w.grownBy w' (some g) := by
  have hidx := index21 base n pv nd x _ es w hown hn hes hx cp cn
  rw [ixv_hit (p := fun e => decide (e.1 = x)) hk (by simpa using hkx) hno] at hidx
  have hk1 : ((k : Int) == -1) = false := by rw [beq_eq_false_iff_ne]; omega
  go_enter Yba.func20, Yba.ntmps20
  go_wp2_with fail
  refine hidx.mono ?_
  rintro e w1 ⟨rfl, hb1⟩
  have hD := del_start (cap := cap) hown hb1 hk hkx hno
  have e0 : (kept x es (k + 1)).length = k := by rw [kept_succ x es k hk, if_pos hkx, kept_take hno, List.length_take]; omega
  clear hidx hb1 hown
  go_wp2
  go_loopw [5, 6] (fun i jv wr => ∃ j : Nat, k + 1 ≤ j ∧ j ≤ n ∧ jv = .int .i64 j ∧ i = .int .i64 (kept x es j).length ∧ Del w wr g cap n x es j) (fun _ jv _ => n - (intOf jv).toNat)
  case atStart => exact ⟨k + 1, Nat.le_refl _, by omega, by go_num, by rw [e0], hD⟩
  case round =>
    clear hD e0
    obtain ⟨j, hkj, hj, rfl, rfl, hD⟩ := hrel
    have hkl := kept_length x es j
    obtain ⟨L, hL⟩ : ∃ L, L = (kept x es j).length := ⟨_, rfl⟩
    rw [← hL] at hkl ⊢
    have HLL := hid hL
    clear hL
    obtain ⟨f, hrow, hf1, hf2⟩ := hD.row
    by_cases hlt : j < n
    · have hjl : j < es.length := by omega
      have hfj := hf2 j hjl (Nat.le_refl _)
      have c0 := hrow.cell (i := j * 2) (by omega)
      have c1 := hrow.cell (i := j * 2 + 1) (by omega)
      rw [hfj.1] at c0
      rw [hfj.2] at c1
      have hem := List.getElem_mem hjl
      obtain ⟨e, he⟩ : ∃ e, e = es[j] := ⟨_, rfl⟩
      rw [← he] at c0 c1 hem
      have HE := hid he
      clear he hfj
      have hbA : Below wr.heap.size wr (wr.alloc (.cells #[.pointer (some ⟨e.1, 0, none⟩), .int .u8 e.2] 58)) := (Below.refl _ _).alloc (Nat.le_refl _) _
      have hcall := clo21 e.1 pv nd x e.2 (wr.alloc (.cells #[.pointer (some ⟨e.1, 0, none⟩), .int .u8 e.2] 58)) (isblk_alloc (far_blk hD.grown (heg e hem) (hes e hem)) _) (isblk_alloc (far_blk hD.grown hxg hx) _)
        (cell_keep hbA (lt_of_cell (far_cell hD.grown hpv cp)) (far_cell hD.grown hpv cp)) (cell_keep hbA (lt_of_cell (far_cell hD.grown hnd cn)) (far_cell hD.grown hnd cn))
      have gl := hrow.lt
      go_wp2_with fail
      refine hcall.mono ?_
      rintro e' w' ⟨rfl, hb'⟩
      have hbw : Below wr.heap.size wr w' := hbA.trans (hb'.mono (by simp))
      have d0 : w'.cell? ⟨wr.heap.size, 0, none⟩ = some (.pointer (some ⟨e.1, 0, none⟩)) := cell_keep hb' (by simp) (by simp)
      have d1 : w'.cell? ⟨wr.heap.size, 1, none⟩ = some (.int .u8 e.2) := cell_keep hb' (by simp) (by simp)
      have r' := hrow.of_block (hbw.block g gl)
      have g0 := r'.cell (i := L * 2) (by omega)
      have g1 := r'.cell (i := L * 2 + 1) (by omega)
      have z0 := r'.frozen (L * 2)
      have z1 := r'.frozen (L * 2 + 1)
      by_cases hex : e.1 = x
      · have HD := hid (hD.drop hjl hbw (by rw [← HE.out]; exact hex))
        have HL := hid (show (kept x es (j + 1)).length = L by rw [kept_succ x es j hjl, ← HE.out, if_pos hex, HLL.out])
        rw [decide_eq_true hex]
        clear hcall hD hrow hf1 hf2 r' hbw hb' hbA hex
        go_wp2
        go_roundw
        case rel => exact ⟨j + 1, by omega, by omega, by go_num, by rw [HL.out], HD.out⟩
        case measure => simp [intOf]; omega
      · have HD := hid (hD.keep hjl hbw (by rw [← HE.out]; exact hex))
        have HL := hid (show (kept x es (j + 1)).length = L + 1 by rw [kept_succ x es j hjl, ← HE.out, if_neg hex, List.length_append, HLL.out]; rfl)
        rw [← HLL.out, ← HE.out] at HD
        rw [decide_eq_false hex]
        clear hcall hD hrow hf1 hf2 r' hbw hb' hbA hex
        go_wp2
        go_roundw
        case rel => exact ⟨j + 1, by omega, by omega, by go_num, by rw [HL.out]; go_num, HD.out⟩
        case measure => simp [intOf]; omega
    · have hjn : n = j := by omega
      subst hjn
      have hLn : L < n := by rw [HLL.out]; exact kept_lt hk (by omega) hkx
      have hcL : ¬ cap = L := by omega
      have hclr := fun ty => run_clear58 wr ty g (L * 2) (n - L) (cap - L) (by omega) (fun j hj => by rw [hrow.cell (by omega)]; rfl) (fun j _ => hrow.frozen _)
      obtain ⟨Z, hZ⟩ : ∃ Z, Z = (Builtin.zeroCells #[.pointer none, .int .u8 0] (n - L)).toList := ⟨_, rfl⟩
      have hZl : Z.length = (n - L) * 2 := by rw [hZ]; simp [Builtin.zeroCells]
      rw [← hZ] at hclr
      have hgr := hD.grown
      have gl := hrow.lt
      have HE := hid (del_end (base := base) (wx := wr.setCells g (L * 2) Z) (by rw [hl]; exact hD) hbg (by omega) hcm (fun o ho => World.cell?_setCells_out g Z (L * 2) wr _ (fun _ _ => .inl (by rw [HLL.out]; rw [hl] at ho; exact ho))) (row_setCells g 58 (cap * 2) Z (L * 2) wr ⟨f, hrow⟩))
      have HG := hid (grown_setCells w g Z (L * 2) wr hgr)
      have HK := hid (show (kept x es es.length).length = L by rw [hl, HLL.out])
      clear hZ hZl hrow hf1 hf2 hD hgr
      go_wp2
      go_ret
      refine ⟨_, rfl, ?_, rfl, HG.out⟩
      have := HE.out
      rw [HK.out] at this ⊢
      exact this

/-- slices.DeleteFunc, the transaction of the request at pv's pointer being struck. -/
theorem delete_any (base n pv nd x : Nat) (v : Value) (es : List (Nat × Int)) (w : World) (hown : w.ownsRow base 58 2 v n (flat es)) (hn : n ≤ 65536) (hes : ∀ e ∈ es, IsBlk w e.1) (hx : IsBlk w x)
    (cp : w.cell? ⟨pv, 0, none⟩ = some (.pointer (some ⟨nd, 0, none⟩))) (cn : w.cell? ⟨nd, 0, none⟩ = some (.pointer (some ⟨x, 0, none⟩))) (hpv : v.ownBlock ≠ some pv) (hnd : v.ownBlock ≠ some nd) (hxg : v.ownBlock ≠ some x) (heg : ∀ e ∈ es, v.ownBlock ≠ some e.1) :
    Calls Yba.prog 20 #[v, .func (.func 21) #[] #[.pointer (some ⟨pv, 0, none⟩)]] w fun e w' => ∃ v', e = .returned v' ∧ w'.ownsRow base 58 2 v' (kept x es es.length).length (flat (kept x es es.length)) ∧ v'.ownBlock = v.ownBlock ∧ w.grownBy w' v.ownBlock := by
  have hl : es.length = n := by have := hown.1; rw [flat_length] at this; omega
  by_cases hex : ∃ k, ∃ hk : k < es.length, es[k].1 = x ∧ ∀ j (hj : j < es.length), j < k → (decide (es[j].1 = x)) = false
  · obtain ⟨k, hk, hkx, hno⟩ := hex
    rcases hown.2 with ⟨rfl, h0⟩ | ⟨g, cap, cur, rfl, hbg, hg, hnc, hcm, _, _⟩
    · omega
    · exact delete_hit base g n cap pv nd x k es w hown hl hnc hbg hcm hn hes hx cp cn (fun e => hpv (by rw [e]; rfl)) (fun e => hnd (by rw [e]; rfl)) (fun e => hxg (by rw [e]; rfl)) (fun e he h => heg e he (by rw [h]; rfl)) hk hkx hno
  · have hno : ∀ j (hj : j < es.length), (decide (es[j].1 = x)) = false := by
      intro j
      induction j using Nat.strongRecOn with
      | _ j ih =>
        intro hj
        rw [decide_eq_false_iff_not]
        intro e
        exact hex ⟨j, hj, e, fun i hi hij => ih i hij hi⟩
    have hidx := index21 base n pv nd x v es w hown hn hes hx cp cn
    rw [ixv_miss (p := fun e => decide (e.1 = x)) (fun j hj => by simpa using hno j hj)] at hidx
    have HK := hid (kept_all hno)
    have HN := hid hl
    clear hno hex hes heg hl
    go_enter Yba.func20, Yba.ntmps20
    go_wp2_with fail
    refine hidx.mono ?_
    rintro e w1 ⟨rfl, hb⟩
    have ho := own_keep hb hown
    clear hidx
    go_wp2
    go_ret
    refine ⟨_, rfl, ?_, rfl, ⟨hb.os, hb.tape, hb.output, hb.size, fun k hk _ => hb.block k hk⟩⟩
    rw [HK.out, HN.out]
    exact ho

end Go.Proofs.Ybulkecuo.B
