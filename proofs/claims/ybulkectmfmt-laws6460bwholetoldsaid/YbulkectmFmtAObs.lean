import Derived.Test.YbulkectmFmtAObs1
namespace Go.Proofs.YbulkectmFmt.A
set_option linter.unusedVariables false
set_option linter.unusedSimpArgs false
open Go.RowKit Go.Deep Go.Extern.Stop Go.Stop Go.Extern

theorem own_of_row {w : World} {b n : Nat} {l : List Nat} (h : w.rowIs b 3 n (ints l)) (hl : l.length = n) (hn : n ≤ 100000) : w.ownsRow b 3 1 (.slice (some ⟨b, 0, none⟩) n n) n (iv l) := by
  obtain ⟨c, h1, h2, h3⟩ := h
  refine ⟨by rw [iv_len, hl]; omega, .inr ⟨b, n, c, rfl, Nat.le_refl _, h1, Nat.le_refl _, by unfold maxLen; omega, by omega, ?_⟩⟩
  rw [Nat.mul_one, List.take_of_length_le (by simp [h2])]
  refine List.ext_getElem? fun j => ?_
  by_cases hj : j < l.length
  · rw [iv_get hj, Array.getElem?_toList, h3 j (by omega)]
    unfold ints
    rw [List.getD_eq_getElem?_getD, List.getElem?_eq_getElem hj]
    rfl
  · rw [List.getElem?_eq_none (by simp [h2]; omega), List.getElem?_eq_none (by rw [iv_len]; omega)]
theorem plAt_ints (zs : List (Option Nat)) (j : Nat) (hj : j < zs.length) : plAt zs zs.length j = ints (zs.map pOf) j := by
  unfold plAt ints
  rw [if_pos hj, List.getD_eq_getElem?_getD, List.getD_eq_getElem?_getD, List.getElem?_map, List.getElem?_eq_getElem hj]
  rfl
theorem stepTo_cases (R : Nat → Bool) (rank : Nat → Int) (to : Option Nat) (t : Nat) : stepTo R rank to t = some t ∨ stepTo R rank to t = to := by
  cases to with
  | none =>
    show (if R t = true then some t else none) = _ ∨ (if R t = true then some t else none) = _
    split <;> simp
  | some u =>
    show (if R t = true ∧ rank t < rank u then some t else some u) = _ ∨ (if R t = true ∧ rank t < rank u then some t else some u) = _
    split <;> simp
theorem foldTo_lt (R : Nat → Bool) (rank : Nat → Int) (n : Nat) : ∀ (ts : List Nat) (to : Option Nat), (∀ t ∈ ts, t < n) → (∀ u, to = some u → u < n) → ∀ u, foldTo R rank ts to = some u → u < n
  | [], to, _, h, u, hu => h u hu
  | t :: ts, to, h1, h2, u, hu => foldTo_lt R rank n ts (stepTo R rank to t) (fun x hx => h1 x (by simp [hx])) (fun y hy => by
      rcases stepTo_cases R rank to t with h | h
      · rw [h] at hy; cases hy; exact h1 _ (by simp)
      · rw [h] at hy; exact h2 y hy) u hu
theorem mem_places {zs : List (Option Nat)} {n : Nat} (hzs : ∀ z ∈ zs, ∀ p, z = some p → p < n) (hnn : none ∉ zs) : ∀ t ∈ zs.map pOf, t < n := by
  intro t ht
  obtain ⟨z, hz, rfl⟩ := List.mem_map.1 ht
  cases z with
  | none => exact absurd hz hnn
  | some p => exact hzs _ hz p rfl

/-- What Observe answers where all names are known. -/
def Told (w : World) (D : GD) (x0 : Nat) (is ts : List Nat) (v : Value) : Prop :=
  ∃ R : Nat → Bool, (∀ i, R i = true ↔ Reach D (okE D (inB (is ++ [x0])) (fin D (inB (is ++ [x0]))).rank) x0 i) ∧
    match foldTo R (fin D (inB (is ++ [x0]))).rank ts none with
    | none => v = .slice none 0 0
    | some t => Handed' w v (V ⟨D.n, inB (is ++ [x0]), D.src, prefL D (inB (is ++ [x0])) (fin D (inB (is ++ [x0]))).rank R⟩ (fun _ => false) t).1

set_option maxRecDepth 1000000 in
set_option maxHeartbeats 8000000 in
/-- Observe. -/
theorem observe_any (F : Interp) (w : World) (hF : F.answers w.tape) (M : GM) (D : GD) (hD : D.Ok) (hG : Gr w M D) (hX : Ix M D) (xz : Option Nat) (hxz : ∀ p, xz = some p → p < D.n)
    (a : Option Addr) (c : Nat) (zs : List (Option Nat)) (hrow : Row w (.slice a zs.length c) zs.length (fun j => .string (sOf (zs.getD j none)))) (hzs : ∀ z ∈ zs, ∀ p, z = some p → p < D.n) (hlen : zs.length ≤ 2048)
    (a2 : Option Addr) (c2 : Nat) (os : List (Option Nat)) (hrow2 : Row w (.slice a2 os.length c2) os.length (fun j => .string (sOf (os.getD j none)))) (hos : ∀ z ∈ os, ∀ p, z = some p → p < D.n) (hlen2 : os.length ≤ 2048) :
    Calls Ybaf.prog 7 #[.pointer (some ⟨M.gp, 0, none⟩), .string (sOf xz), .slice a zs.length c, .slice a2 os.length c2] w fun e w' => Below w.heap.size w w' ∧
      (((xz = none ∨ none ∈ zs ∨ none ∈ os) ∧ ∃ b, e = .returned (.tuple #[.slice none 0 0, .iface 89 (.pointer (some b))])) ∨
       (∃ x0, xz = some x0 ∧ none ∉ zs ∧ none ∉ os ∧ ∃ v, e = .returned (.tuple #[v, .nilIface]) ∧ Told w' D x0 (zs.map pOf) (os.map pOf) v)) := by
  have HD := hid hD
  have HG := hid hG
  have HX := hid hX
  have HFA := hid hF
  have HR1 := hid hrow
  have HR2 := hid hrow2
  clear hG hX hF hrow hrow2 hD
  cases xz with
  | none =>
    have HP := hid (place_bad F w HFA.out M D HG.out HX.out)
    obtain ⟨S, hS⟩ : ∃ S, S = missing := ⟨_, rfl⟩
    rw [show sOf none = missing from rfl]
    rw [← hS] at HP ⊢
    clear hS
    go_enter Ybaf.func7, Ybaf.ntmps7
    go_wp2_with fail
    refine (HP.out).mono ?_
    rintro e w' ⟨⟨bb, rfl⟩, hB'⟩
    have HB' := hid hB'
    clear HP hB'
    go_wp2
    go_ret2
    exact ⟨HB'.out, .inl ⟨.inl (by simp), bb, rfl⟩⟩
  | some x0 =>
    have hx0 : x0 < D.n := hxz x0 rfl
    have HP := hid (place_ok w M D HD.out.hn HG.out HX.out x0 hx0)
    obtain ⟨S, hS⟩ : ∃ S, S = idStr x0 := ⟨_, rfl⟩
    rw [show sOf (some x0) = idStr x0 from rfl]
    rw [← hS] at HP ⊢
    clear hS hxz
    have HPL := hid (places_any F w HFA.out M D HD.out.hn HG.out HX.out a c zs HR1.out hzs hlen)
    go_enter Ybaf.func7, Ybaf.ntmps7
    go_wp2_with fail
    refine (HP.out).mono ?_
    rintro e w' ⟨rfl, hw'⟩
    have hw2 := hw'.symm
    subst hw2
    clear HP hw'
    go_wp2_with fail
    refine (HPL.out).mono ?_
    rintro e w1 ⟨hB1, h⟩
    clear HPL
    have HB1 := hid hB1
    rcases h with ⟨hin, b, rfl⟩ | ⟨hni, PB, hPB, rfl, hPr⟩
    · clear hB1
      go_wp2
      go_ret2
      exact ⟨HB1.out, .inl ⟨.inr (.inl hin), b, rfl⟩⟩
    · have HPL := hid (places_any F w1 (by rw [hB1.tape]; exact HFA.out) M D HD.out.hn (HG.out.keep hB1) HX.out a2 c2 os (HR2.out.keep hB1) hos hlen2)
      have HPr := hid hPr
      clear hB1 hPr
      go_wp2_with fail
      refine (HPL.out).mono ?_
      rintro e w2 ⟨hB2', h⟩
      clear HPL
      have HB2 : Hid (Below w.heap.size w w2) := hid (below_up HB1.out hB2')
      have HPr2 : Hid (w2.rowIs PB 3 zs.length (plAt zs zs.length)) := hid (HPr.out.of_block (hB2'.block _ HPr.out.lt))
      rcases h with ⟨hin, b, rfl⟩ | ⟨hno, TB, hTB, rfl, hTr⟩
      · clear hB2'
        go_wp2
        go_ret2
        exact ⟨HB2.out, .inl ⟨.inr (.inr hin), b, rfl⟩⟩
      · clear hB2'
        have hPB2 : PB < w2.heap.size := HPr2.out.lt
        have hTB2 : TB < w2.heap.size := hTr.lt
        obtain ⟨is, his⟩ : ∃ is, is = zs.map pOf := ⟨_, rfl⟩
        obtain ⟨ts, hts⟩ : ∃ is, is = os.map pOf := ⟨_, rfl⟩
        have hil : is.length = zs.length := by rw [his]; simp
        have htl : ts.length = os.length := by rw [hts]; simp
        have hisn : ∀ t ∈ is, t < D.n := by rw [his]; exact mem_places hzs hni
        have htsn : ∀ t ∈ ts, t < D.n := by rw [hts]; exact mem_places hos hno
        have hown := own_of_row (HPr2.out.congr (g := ints is) fun j hj => by rw [his]; exact plAt_ints zs j hj) hil (by omega)
        have hTr' := hTr.congr (g := ints ts) fun j hj => by rw [hts]; exact plAt_ints os j hj
        have hbs : PB ≤ w2.heap.size := by omega
        rw [← hil] at hown ⊢
        rw [← htl] at hTr' ⊢
        have hlen' : is.length ≤ 2048 := by omega
        have hlen2' : ts.length ≤ 2048 := by omega
        -- behind the append
        have HAP : Hid (∀ (w3 : World) (g cap : Nat), w3.ownsRow PB 3 1 (.slice (some ⟨g, 0, none⟩) (is.length + 1) cap) (is.length + 1) (iv is ++ [.int .i64 (x0 : Int)]) → w2.grownBy w3 (some PB) → Below w.heap.size w w3 ∧ Row w3 (.slice (some ⟨g, 0, none⟩) (is ++ [x0]).length cap) (is ++ [x0]).length (ints (is ++ [x0])) ∧ ∀ j, j < ts.length → w3.cell? ⟨TB, j, none⟩ = some (ints ts j)) := hid (fun w3 g cap h1 h2 => by
          refine ⟨below_grown HB2.out HB2.out.size h2 (fun k hk => by cases hk; exact hPB), ?_, fun j hj => ?_⟩
          · have h1' : w3.ownsRow PB 3 1 (.slice (some ⟨g, 0, none⟩) (is ++ [x0]).length cap) (is ++ [x0]).length (iv (is ++ [x0])) := by rw [iv_append, List.length_append]; exact h1
            exact own_row h1'
          · have hne : TB ≠ PB := by have := HPr.out.lt; omega
            exact (hTr'.of_block (h2.block TB hTB2 (fun e => by injection e with e; exact hne e))).cell hj)
        have HTS := hid hts
        have HIS := hid his
        have HISN := hid hisn
        have HTSN := hid htsn
        clear hTr hTr' his hts hil htl hisn htsn hzs hos hlen hlen2 HPr2 HPr hTB2 hPB2
        go_wp2_with ((at_builtin; refine wpList_append_at (wr := w2) rfl (.tmp 47) (.tmp 49) 27 rfl 3 (.int .i64 0) 1 8 Ybaf.underlying27 info3 rfl (by omega) (by omega) (.slice (some ⟨PB, 0, none⟩) is.length is.length) is.length (iv is) rfl PB hown hbs [.int .i64 (x0 : Int)] rfl (by simp [Value.oneCell']) w2.heap.size rfl rfl (by omega) ?_; intro g cap w3 ho3 hgr3 hat3))
        obtain ⟨hB3, hrw, hTc⟩ := HAP.out w3 g cap ho3 hgr3
        have HPR := hid (propagate_any w3 M D HD.out (HG.out.keep hB3) (some ⟨g, 0, none⟩) cap (is ++ [x0]) hrw (fun y hy => by
          rcases List.mem_append.1 hy with hy | hy
          · exact HISN.out y hy
          · simp at hy; rw [hy]; exact hx0) (by simp; omega))
        have hlx : (is ++ [x0]).length = is.length + 1 := by simp
        obtain ⟨ls, hls⟩ : ∃ ls, ls = is ++ [x0] := ⟨_, rfl⟩
        rw [← hls] at HPR hlx
        rw [hlx] at HPR
        have HLS := hid hls
        have HB3 := hid hB3
        have HTC := hid hTc
        clear HAP hB3 hrw hTc hlx hls ho3 hgr3 hat3 hown hbs
        refine (HPR.out).mono ?_
        rintro e w4 ⟨fp, rfl, hB4, SD, RK, hFir⟩
        clear HPR
        obtain ⟨seed, hseed⟩ : ∃ seed, seed = inB ls := ⟨_, rfl⟩
        rw [← hseed] at hFir
        obtain ⟨rank, hrank⟩ : ∃ rank, rank = (fin D seed).rank := ⟨_, rfl⟩
        rw [← hrank] at hFir
        have HSEED := hid hseed
        have HRANK := hid hrank
        have HB4 : Hid (Below w.heap.size w w4) := hid (below_up HB3.out hB4)
        have HTC4 : Hid (∀ j, j < ts.length → w4.cell? ⟨TB, j, none⟩ = some (ints ts j)) := hid (fun j hj => cell_old hB4 (HTC.out j hj))
        obtain ⟨W5, hW5⟩ : ∃ W5, W5 = w4.alloc (.cells #[.int .i64 (x0 : Int)] 3) := ⟨_, rfl⟩
        have hB45 : Below w4.heap.size w4 W5 := by rw [hW5]; exact (Below.refl _ _).alloc (Nat.le_refl _) _
        have hc5 : W5.cell? ⟨w4.heap.size, 0, none⟩ = some (.int .i64 (x0 : Int)) := by rw [hW5]; simp
        have hB5 := below_up HB4.out hB45
        have HRE := hid (reached_any W5 M D HD.out (HG.out.keep hB5) fp SD RK seed rank (hFir.keep hB45) x0 hx0 w4.heap.size hc5)
        have HFI5 := hid (hFir.keep hB45)
        have HTC5 : Hid (∀ j, j < ts.length → W5.cell? ⟨TB, j, none⟩ = some (ints ts j)) := hid (fun j hj => cell_old hB45 (HTC4.out j hj))
        have HB5 := hid hB5
        have HW5 := hid hW5
        clear hFir hB4 hB45 hc5 hB5 hseed hrank hW5 HTC HTC4
        go_wp2_with fail
        rw [← HW5.out]
        refine (HRE.out).mono ?_
        rintro e w6 ⟨RB, rfl, hB6, R, hRc, hRR⟩
        have HFI6 := hid (HFI5.out.keep hB6)
        have HTC6 : Hid (∀ j (h : j < ts.length), w6.cell? ⟨TB, j, none⟩ = some (.int .i64 ((ts[j] : Nat) : Int))) := hid (fun j hj => by
          rw [cell_old hB6 (HTC5.out j hj)]
          unfold ints
          rw [List.getD_eq_getElem?_getD, List.getElem?_eq_getElem hj]
          rfl)
        have HB6 : Hid (Below w.heap.size w w6) := hid (below_up HB5.out hB6)
        have HRc := hid hRc
        have HRR := hid hRR
        clear hB6 hRc hRR HRE HFI5 HTC5 HW5
        go_wp2_with fail
        refine obsLoop w6 D HD.out fp SD RK seed rank HFI6.out RB R HRc.out TB ts HTSN.out hlen2' HTC6.out _ _ _ _ _ _ _ _ _ _ _ _ _ _ _ _ _ _ _ _ _ _ _ _ _ _ _ _ _ _ _ _ _ _ _ _ _ _ _ _ _ _ _ _ _ _ _ _ _ _ _ _ _ _ _ _ _ _ _ _ _ _ _ _ _ _ _ _ _ _ _ _ _ _ _ _ _ _ _ _ _ _ _ _ _ _ _ _ _ _ _ _ ?_
        intro y18 y59 y60 y61 y62 y63 y64 y65 y66 y67 y68 y69 y70 y71 y72 y73 y74 y75 y76 y77 y78 y79 y80 y81 y82 y83 y84 y85 y86 y87 y88 y89 d
        have HT : Hid (∀ (v : Value) (W : World), (match foldTo R rank ts none with | none => v = .slice none 0 0 | some t => Handed' W v (V ⟨D.n, seed, D.src, prefL D seed rank R⟩ (fun _ => false) t).1) → Told W D x0 (zs.map pOf) (os.map pOf) v) := hid (fun v W h => by
          unfold Told
          rw [← HIS.out, ← HTS.out, ← HLS.out, ← HSEED.out, ← HRANK.out]
          exact ⟨R, HRR.out, h⟩)
        have HFL := hid (foldTo_lt R rank D.n ts none HTSN.out (fun u hu => by cases hu))
        obtain ⟨W7, hW7⟩ : ∃ W7, W7 = w6.drewN d := ⟨_, rfl⟩
        have hB7 : Below w6.heap.size w6 W7 := by rw [hW7]; exact below_drewN (Below.refl _ _) d
        rw [← hW7]
        have HB7 := hid (below_up HB6.out hB7)
        cases hto : foldTo R rank ts none with
        | none =>
          have HT1 := hid (HT.out (.slice none 0 0) W7 (by rw [hto]))
          rw [show toV none = .int .i64 (-1) from rfl]
          clear hto HT hB7 hW7 hlen' hlen2'
          go_wp2
          go_ret2
          exact ⟨HB7.out, .inr ⟨x0, rfl, hni, hno, _, rfl, HT1.out⟩⟩
        | some t =>
          have htn : t < D.n := HFL.out t hto
          have HCH := hid (chain_any W7 M D HD.out (HG.out.keep HB7.out) fp SD RK seed rank (HFI6.out.keep hB7) (by rw [HRANK.out]; exact fir_ranked HD.out seed) RB R (fun i hi => cell_old hB7 (HRc.out i hi)) t htn)
          have HT1 : Hid (∀ (v : Value) (W : World), Handed' W v (V ⟨D.n, seed, D.src, prefL D seed rank R⟩ (fun _ => false) t).1 → Told W D x0 (zs.map pOf) (os.map pOf) v) := hid (fun v W h => HT.out v W (by rw [hto]; exact h))
          have u2 : decide ((t : Int) < 0) = false := by simp
          rw [show toV (some t) = .int .i64 (t : Int) from rfl]
          clear hto HT hB7 hW7 hlen' hlen2'
          go_wp2_with fail
          refine (HCH.out).mono ?_
          rintro e w8 ⟨v, rfl, hB8, hH⟩
          have HB8 := hid (below_up HB7.out hB8)
          have HT2 := hid (HT1.out v w8 hH)
          clear hB8 hH HCH HT1
          go_wp2
          go_ret2
          exact ⟨HB8.out, .inr ⟨x0, rfl, hni, hno, v, rfl, HT2.out⟩⟩

end Go.Proofs.YbulkectmFmt.A
