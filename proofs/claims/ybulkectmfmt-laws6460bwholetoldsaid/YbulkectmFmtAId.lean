import Derived.Test.YbulkectmFmtABase
namespace Go.Proofs.YbulkectmFmt.A
set_option linter.unusedVariables false
set_option linter.unusedSimpArgs false
open Go.RowKit Go.Deep

theorem dbytes_append (l : List Nat) (d : Nat) : dbytes (l ++ [d]) = dbytes l ++ [.int .u8 (48 + (d : Int))] := by simp [dbytes]
theorem dbytes_len (l : List Nat) : (dbytes l).length = l.length := by simp [dbytes]

/-- The bytes of the id, as far as the second loop has come: the last j digits are still to come. -/
def ibytes (l : List Nat) (j : Nat) : List Value := .int .u8 110 :: dbytes ((l.drop j).reverse)
theorem ibytes_step (l : List Nat) (j : Nat) (h : j < l.length) : ibytes l j = ibytes l (j + 1) ++ [.int .u8 (48 + (l[j] : Int))] := by
  unfold ibytes
  rw [List.drop_eq_getElem_cons h, List.reverse_cons, dbytes_append]
  rfl

set_option maxRecDepth 100000 in
set_option maxHeartbeats 1000000 in
/-- zzs6460bid. -/
theorem id_any (i : Nat) (hi : i ≤ 100000) (w : World) : Calls Ybaf.prog 4 #[.int .i64 (i : Int)] w fun e w' => e = .returned (.string (idStr i)) ∧ Below w.heap.size w w' := by
  have hlen := dig_len i
  go_enter Ybaf.func4, Ybaf.ntmps4
  go_wp2
  go_loopw [3, 4] (fun v x wr => ∃ (k : Nat) (ds : List Nat), x = .int .i64 k ∧ k ≤ i ∧ wr.ownsRow w.heap.size 5 1 v ds.length (dbytes ds) ∧ Below w.heap.size w wr ∧ ds ++ dig k = dig i) (fun _ x _ => (intOf x).toNat)
  case atStart => exact ⟨i, [], rfl, Nat.le_refl _, ⟨rfl, .inl ⟨rfl, rfl⟩⟩, Below.refl _ _, rfl⟩
  case round =>
    obtain ⟨k, ds, rfl, hk, hown, hB, hd⟩ := hrel
    have hdl : ds.length ≤ 100001 := by have := congrArg List.length hd; rw [List.length_append] at this; omega
    obtain ⟨r, hr⟩ : ∃ r, r = k % 10 := ⟨_, rfl⟩
    have e1 : (k : Int).tmod 10 = (r : Int) := by rw [Int.tmod_eq_emod_of_nonneg (by omega)]; omega
    have e2 : IntKind.i64.wrap (48 + (r : Int)) = 48 + (r : Int) := by rw [IntKind.wrap_i64]; omega
    have e3 : IntKind.u8.wrap (48 + (r : Int)) = 48 + (r : Int) := by simp [IntKind.wrap, IntKind.bits, IntKind.signed]; omega
    have hbs := hB.size
    have HOW := hid (fun (w1 : World) (g cap : Nat) (h : w1.ownsRow w.heap.size 5 1 (.slice (some ⟨g, 0, none⟩) (ds.length + 1) cap) (ds.length + 1) (dbytes ds ++ [.int .u8 (48 + (r : Int))])) => (show w1.ownsRow w.heap.size 5 1 (.slice (some ⟨g, 0, none⟩) (ds.length + 1) cap) (ds ++ [r]).length (dbytes (ds ++ [r])) from by rw [dbytes_append, List.length_append]; exact h))
    have HBG := hid (fun (w1 : World) (h : wr.grownBy w1 u3.ownBlock) => below_grown' hB hown (Nat.le_refl _) h)
    have HD := hid hd
    have HR := hid hr
    have HLEN := hid hlen
    clear hB hd hr hlen
    by_cases hlt : k < 10
    · have t1 : decide ((k : Int) < 10) = true := by simp; omega
      go_wp2_with ((at_builtin; refine wpList_append_one rfl (.tmp 10) (.tmp 15) 22 rfl 5 (.int .u8 0) 1 1 Ybaf.underlying22 info5 rfl (by omega) (by omega) _ ds.length (dbytes ds) rfl w.heap.size hown hbs [.int .u8 (48 + (r : Int))] rfl (by simp [Value.oneCell']) rfl (by omega) ?_; intro g cap w1 ho1 hgr hat))
      have hds : ds ++ [r] = dig i := by
        rw [← HD.out, HR.out, dig_eq, if_pos hlt]
      have ho2 := HOW.out _ _ _ ho1
      rw [hds] at ho2
      have hL : ds.length + 1 = (dig i).length := by rw [← hds]; simp
      have hB2 := HBG.out _ hgr
      obtain ⟨L, hLe⟩ : ∃ L, L = (dig i).length := ⟨_, rfl⟩
      rw [hL, ← hLe]
      rw [hL, ← hLe] at ho2
      have hrow3 : ∀ (wx : World), Below w1.heap.size w1 wx → ∀ j (h : j < (dig i).length), wx.cell? ⟨g, j, none⟩ = some (.int .u8 (48 + ((dig i)[j] : Int))) := fun wx hb j h => by
        have hx := own_keep hb ho2
        rw [hx.cellAt j (by omega)]
        simp [dbytes, h]
      have hL1 : L ≤ 100001 := by have := HLEN.out; omega
      have hL0 : 1 ≤ L := by omega
      have hdsL : (ds.length : Int) = (L : Int) - 1 := by omega
      have HDL := hid hdsL
      clear hdsL
      have HB2 := hid hB2
      have H3 := hid hrow3
      have HLe := hid hLe
      have hw2 : IntKind.i64.wrap ((L : Int) - 1) = (L : Int) - 1 := by rw [IntKind.wrap_i64]; omega
      clear hrow3 ho2 ho1 hgr hds HOW HBG HD HR e1 e2 e3 hB2 hL hbs hLe HLEN hown
      go_loopw [5, 6] (fun v x wr => ∃ j : Nat, x = .int .i64 ((j : Int) - 1) ∧ j ≤ L ∧ wr.ownsRow w1.heap.size 5 1 v (1 + (L - j)) (ibytes (dig i) j) ∧ Below w1.heap.size w1 wr) (fun _ x _ => ((intOf x) + 1).toNat)
      case atStart =>
        refine ⟨L, by rw [HDL.out], Nat.le_refl _, ⟨?_, .inr ⟨w1.heap.size, 1, #[.int .u8 110], ?_, Nat.le_refl _, blk_alloc_new _ _, ?_, by unfold maxLen; omega, rfl, ?_⟩⟩, (Below.refl _ _).alloc (Nat.le_refl _) _⟩
        · rw [HLe.out]; simp [ibytes, dbytes]
        · simp
        · omega
        · rw [HLe.out]; simp [ibytes, dbytes]
      case round =>
        obtain ⟨j, rfl, hj, hown, hB⟩ := hrel
        by_cases hj0 : 0 < j
        · have t2 : decide ((0 : Int) ≤ (j : Int) - 1) = true := by simp; omega
          have hjl : j - 1 < (dig i).length := by rw [← HLe.out]; omega
          have c1 := H3.out wr hB (j - 1) hjl
          obtain ⟨d, hd⟩ : ∃ d, d = (dig i)[j - 1] := ⟨_, rfl⟩
          rw [← hd] at c1
          have j0 : (0 : Int) ≤ (j : Int) - 1 := by omega
          have j1 : (j : Int) - 1 < (L : Int) := by omega
          have j2 : ((j : Int) - 1).toNat = j - 1 := by omega
          have hw3 : IntKind.i64.wrap ((j : Int) - 1 - 1) = (j : Int) - 1 - 1 := by rw [IntKind.wrap_i64]; omega
          have hbs : w1.heap.size ≤ wr.heap.size := hB.size
          have HST := hid (ibytes_step (dig i) (j - 1) hjl)
          rw [← hd, show j - 1 + 1 = j by omega] at HST
          have HBG := hid (fun (w2 : World) (h : wr.grownBy w2 u5.ownBlock) => below_grown' hB hown (Nat.le_refl _) h)
          clear hd hB
          go_wp2_with ((at_builtin; refine wpList_append_one rfl (.tmp 27) (.tmp 32) 22 rfl 5 (.int .u8 0) 1 1 Ybaf.underlying22 info5 rfl (by omega) (by omega) _ (1 + (L - j)) (ibytes (dig i) j) rfl w1.heap.size hown hbs [.int .u8 (48 + (d : Int))] rfl (by simp [Value.oneCell']) rfl (by omega) ?_; intro g2 cap2 w2 ho2 hgr2 hat2))
          go_roundw
          case rel =>
            refine ⟨j - 1, ?_, by omega, ?_, HBG.out _ hgr2⟩
            · congr 1; omega
            · rw [HST.out]
              have e : 1 + (L - (j - 1)) = 1 + (L - j) + 1 := by omega
              rw [e]
              exact ho2
          case measure => simp [intOf]; omega
        · have e0 : j = 0 := by omega
          subst e0
          rw [Nat.sub_zero] at hown
          have hib : ibytes (dig i) 0 = (idNums i).map (Value.int .u8) := by
            unfold ibytes idNums dbytes
            simp
          rw [hib] at hown
          have hil : (idNums i).length = 1 + L := by have := hown.1; simpa using this
          obtain ⟨g2, c2, hv, hcv⟩ : ∃ g2 c2, u5 = .slice (some ⟨g2, 0, none⟩) (1 + L) c2 ∧ ∀ q, q < 1 + L → wr.cell? ⟨g2, 0 + q, none⟩ = some (.int .u8 ((idNums i).getD q 0)) := by
            rcases hown.2 with ⟨_, h0⟩ | ⟨g2, c2, cur, hv, _⟩
            · omega
            · subst hv
              refine ⟨g2, c2, rfl, fun q hq => ?_⟩
              rw [Nat.zero_add, hown.cellAt q (by omega)]
              simp [List.getElem?_map, List.getElem?_eq_getElem (show q < (idNums i).length by omega), List.getD]
          subst hv
          have hcon := run_convert_bytes_arg (P := Ybaf.prog) wr 22 5 Ybaf.underlying22 Ybaf.underlying5 g2 0 (1 + L) c2 (idNums i) hil hcv 9 Ybaf.underlying9
          rw [show strOfNums (idNums i) = idStr i from rfl] at hcon
          have HBB : Hid (Below w.heap.size w wr) := hid (HB2.out.trans (hB.mono HB2.out.size))
          clear hown hcv hib hil hB H3 HB2
          go_wp2
          go_ret
          exact ⟨rfl, HBB.out⟩
    · have t1 : decide ((k : Int) < 10) = false := by simp; omega
      have e4 : (k : Int).tdiv 10 = ((k / 10 : Nat) : Int) := by rw [Int.tdiv_eq_ediv_of_nonneg (by omega)]; omega
      go_wp2_with ((at_builtin; refine wpList_append_one rfl (.tmp 10) (.tmp 15) 22 rfl 5 (.int .u8 0) 1 1 Ybaf.underlying22 info5 rfl (by omega) (by omega) _ ds.length (dbytes ds) rfl w.heap.size hown hbs [.int .u8 (48 + (r : Int))] rfl (by simp [Value.oneCell']) rfl (by omega) ?_; intro g cap w1 ho1 hgr hat))
      go_roundw
      case rel =>
        refine ⟨k / 10, ds ++ [r], rfl, by omega, HOW.out _ _ _ ho1, HBG.out _ hgr, ?_⟩
        rw [← HD.out, List.append_assoc, dig_eq k, if_neg hlt, HR.out]
        rfl
      case measure => simp [intOf]; omega

end Go.Proofs.YbulkectmFmt.A
