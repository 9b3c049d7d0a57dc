import Derived.Test.YbulkectmFmtALaw
import Derived.ProofKit
import Derived.OpenShut
import Derived.ShutString
import Derived.Deep.Slices
import Derived.Deep.SlicePairs
import Derived.ChangeOld
import Derived.Below
import Derived.Stop.JoinedAt
import Derived.Stop.Texts
import Derived.Stop.JoinedTold
import Derived.SevenToldRow
namespace Go.Proofs.YbulkectmFmt
set_option linter.unusedVariables false
open Go.ChangeShapes Go.WideShapes Go.ChangeAt Go.RowKit Go.Kit Go.Deep
open Go.Extern.Stop Go.Stop Go.Extern

theorem own : ownKnob Ybaf.prog.godebug = none := by kernel_rfl
theorem cells5 : Ybaf.prog.cellsOf 5 = 1 := by kernel_rfl
theorem cells24 : Ybaf.prog.cellsOf 24 = 1 := by kernel_rfl
theorem cells40 : Ybaf.prog.cellsOf 40 = 3 := by kernel_rfl

section
variable {H : Type} {enc : TypeId × Value → H} {W : World} {a : Option Addr} {len cap : Nat} {d : DataW H} {p : List MemPlace}
/-- A slice of numbers that came in, opened. -/
theorem came1 {t e : TypeId} {k : IntKind} (ht : Ybaf.prog.underlying t = some (.slice e)) (he : Ybaf.prog.underlying e = some (.int k)) (hc : Ybaf.prog.cellsOf e = 1) {lo hi : Int} (hlh : lo ≤ 0 ∧ 0 ≤ hi) (hb : ∀ z, (Lit.int k z).wf = true → lo ≤ z ∧ z ≤ hi)
    (h : ∃ n, DataW.trod enc Ybaf.prog W 0 (fun _ => true) true n t [.slice a len cap] = some (d, p)) :
    ∃ I : Nat → Int, (∀ i, i < len → ∃ b o, a = some ⟨b, o, none⟩ ∧ b < W.heap.size ∧ ∀ j, j < len → W.cell? ⟨b, o + j, none⟩ = some (.int k (I j))) ∧ ∀ i, lo ≤ I i ∧ I i ≤ hi := by
  obtain ⟨n, t0⟩ := h
  rcases open_slice1 ht hc t0 with ⟨h1, _⟩ | ⟨a', len', cap', m, k', V, D, Pl, h1, _, hl, hm, hmm, hx, hall⟩
  · simp only [List.cons.injEq, and_true, Value.slice.injEq] at h1
    obtain ⟨rfl, rfl, rfl⟩ := h1
    exact ⟨fun _ => 0, fun i hi => absurd hi (by omega), fun _ => hlh⟩
  · simp only [List.cons.injEq, and_true, Value.slice.injEq] at h1
    obtain ⟨rfl, rfl, rfl⟩ := h1
    simp only [if_true] at hmm
    have h0 : ∀ i, i < m → ∃ z : Int, V i = .int k z ∧ (Lit.int k z).wf = true := fun i hi => by
      obtain ⟨z, h1, h2, h3⟩ := DataW.trod_int he (hall i hi).2
      simp only [List.cons.injEq, and_true] at h1
      exact ⟨z, h1, h3⟩
    obtain ⟨T, hT⟩ := choose_lt h0
    refine ⟨fun i => if i < m then T i else 0, fun i hi => ?_, fun i => ?_⟩
    · obtain ⟨b, off, spot⟩ := a'
      have hspot : spot = none := by simpa [Addr.add] using World.cell?_spot (hall 0 (by omega)).1
      subst hspot
      have hcell : ∀ j, j < m → W.cell? ⟨b, off + j, none⟩ = some (.int k (T j)) := fun j hj => by
        have hc := (hall j hj).1
        rw [show (⟨b, off, none⟩ : Addr).add j = ⟨b, off + j, none⟩ from Addr.add_lit _ _ _] at hc
        rw [hc, (hT j hj).1]
      refine ⟨b, off, rfl, A.lt_of_cell (hcell 0 (by omega)), fun j hj => ?_⟩
      have hjm : j < m := by omega
      simp only [if_pos hjm]
      exact hcell j hjm
    · by_cases e' : i < m
      · simp only [if_pos e']; exact hb _ (hT i e').2
      · simp only [if_neg e']; exact hlh

set_option maxRecDepth 100000 in
/-- A slice of edges that came in, opened. -/
theorem came3 (h : ∃ n, DataW.trod enc Ybaf.prog W 0 (fun _ => true) true n 23 [.slice a len cap] = some (d, p)) :
    ∃ Xf Yf Zf : Nat → Int, (∀ i, i < len → ∃ b o, a = some ⟨b, o, none⟩ ∧ b < W.heap.size ∧ ∀ j, j < len → W.cell? ⟨b, o + j * 3, none⟩ = some (.int .u16 (Xf j)) ∧ W.cell? ⟨b, o + j * 3 + 1, none⟩ = some (.int .u16 (Yf j)) ∧ W.cell? ⟨b, o + j * 3 + 2, none⟩ = some (.int .u8 (Zf j))) ∧ ∀ j, (0 ≤ Xf j ∧ Xf j ≤ 65535) ∧ (0 ≤ Yf j ∧ Yf j ≤ 65535) ∧ 0 ≤ Zf j ∧ Zf j ≤ 255 := by
  obtain ⟨n, t0⟩ := h
  rcases open_slice Ybaf.underlying23 t0 with ⟨h1, _⟩ | ⟨a', len', cap', m, k', D, Pl, h1, _, hl, hm, hmm, hx, hall⟩
  · simp only [List.cons.injEq, and_true, Value.slice.injEq] at h1
    obtain ⟨rfl, rfl, rfl⟩ := h1
    exact ⟨fun _ => 0, fun _ => 0, fun _ => 0, fun i hi => absurd hi (by omega), fun _ => by simp⟩
  · simp only [List.cons.injEq, and_true, Value.slice.injEq] at h1
    obtain ⟨rfl, rfl, rfl⟩ := h1
    simp only [if_true] at hmm
    have h0 : ∀ i, i < m → ∃ q : Int × Int × Int, W.cell? (a'.add (i * 3)) = some (.int .u16 q.1) ∧ W.cell? (a'.add (i * 3 + 1)) = some (.int .u16 q.2.1) ∧ W.cell? (a'.add (i * 3 + 2)) = some (.int .u8 q.2.2) ∧ (Lit.int .u16 q.1).wf = true ∧ (Lit.int .u16 q.2.1).wf = true ∧ (Lit.int .u8 q.2.2).wf = true := fun i hi => by
      obtain ⟨cs', h1, h2⟩ := hall i hi
      rw [cells40] at h1
      obtain ⟨_, hlen, hcell⟩ := World.cells?_some h1
      obtain ⟨xs, k, hk, hxy, _, hxl, hf⟩ := DataW.trod_struct Ybaf.underlying40 h2
      match xs, hxl, cs', hlen with
      | [y0, y1, y2], _, [v0, v1, v2], _ =>
        have g0 := hf 0 _ rfl
        have g1 := hf 1 _ rfl
        have g2 := hf 2 _ rfl
        simp [cells24, cells5] at g0 g1 g2
        have e0 := hcell 0 (by omega)
        have e1 := hcell 1 (by omega)
        have e2 := hcell 2 (by omega)
        rw [add_add] at e0 e1 e2
        obtain ⟨z0, i0, _, k0⟩ := DataW.trod_int Ybaf.underlying24 g0
        obtain ⟨z1, i1, _, k1⟩ := DataW.trod_int Ybaf.underlying24 g1
        obtain ⟨z2, i2, _, k2⟩ := DataW.trod_int Ybaf.underlying5 g2
        simp only [List.cons.injEq, and_true] at i0 i1 i2
        subst i0 i1 i2
        exact ⟨(z0, z1, z2), by simpa using e0, by simpa using e1, by simpa using e2, k0, k1, k2⟩
    obtain ⟨T, hT⟩ := choose_lt h0
    refine ⟨fun i => if i < m then (T i).1 else 0, fun i => if i < m then (T i).2.1 else 0, fun i => if i < m then (T i).2.2 else 0, fun i hi => ?_, fun i => ?_⟩
    · obtain ⟨b, off, spot⟩ := a'
      have hspot : spot = none := by simpa [Addr.add] using World.cell?_spot (hT 0 (by omega)).1
      subst hspot
      have hcell : ∀ j, j < m → W.cell? ⟨b, off + j * 3, none⟩ = some (.int .u16 (T j).1) ∧ W.cell? ⟨b, off + j * 3 + 1, none⟩ = some (.int .u16 (T j).2.1) ∧ W.cell? ⟨b, off + j * 3 + 2, none⟩ = some (.int .u8 (T j).2.2) := fun j hj => by
        have hc := hT j hj
        rw [show (⟨b, off, none⟩ : Addr).add (j * 3) = ⟨b, off + j * 3, none⟩ from Addr.add_lit _ _ _, show (⟨b, off, none⟩ : Addr).add (j * 3 + 1) = ⟨b, off + j * 3 + 1, none⟩ from Addr.add_lit _ _ _, show (⟨b, off, none⟩ : Addr).add (j * 3 + 2) = ⟨b, off + j * 3 + 2, none⟩ from Addr.add_lit _ _ _] at hc
        exact ⟨hc.1, hc.2.1, hc.2.2.1⟩
      refine ⟨b, off, rfl, A.lt_of_cell (hcell 0 (by omega)).1, fun j hj => ?_⟩
      have hjm : j < m := by omega
      simp only [if_pos hjm]
      exact hcell j hjm
    · by_cases e' : i < m
      · simp only [if_pos e']
        have h := (hT i e').2.2.2
        exact ⟨bounds_u16 h.1, bounds_u16 h.2.1, bounds_u8 h.2.2⟩
      · simp only [if_neg e']; simp
end

open A in
/-- The law, whatever the input. -/
theorem law_any (F : Interp) (w : World) (hF : F.answers w.tape) (n ne ni no : Nat) (a0 a1 a3 a4 : Option Addr) (c0 c1 c3 c4 : Nat) (Wf Xf Yf Zf I3 I4 : Nat → Int) (X : Int) (hx : 0 ≤ X ∧ X ≤ 65535)
    (hsw : ∀ i, i < n → ∃ b o, a0 = some ⟨b, o, none⟩ ∧ b < w.heap.size ∧ ∀ j, j < n → w.cell? ⟨b, o + j, none⟩ = some (.int .u8 (Wf j))) (hIw : ∀ j, 0 ≤ Wf j ∧ Wf j ≤ 255)
    (hse : ∀ i, i < ne → ∃ b o, a1 = some ⟨b, o, none⟩ ∧ b < w.heap.size ∧ ∀ j, j < ne → w.cell? ⟨b, o + j * 3, none⟩ = some (.int .u16 (Xf j)) ∧ w.cell? ⟨b, o + j * 3 + 1, none⟩ = some (.int .u16 (Yf j)) ∧ w.cell? ⟨b, o + j * 3 + 2, none⟩ = some (.int .u8 (Zf j))) (hIe : ∀ j, (0 ≤ Xf j ∧ Xf j ≤ 65535) ∧ (0 ≤ Yf j ∧ Yf j ≤ 65535) ∧ 0 ≤ Zf j ∧ Zf j ≤ 255)
    (hs3 : ∀ i, i < ni → ∃ b o, a3 = some ⟨b, o, none⟩ ∧ b < w.heap.size ∧ ∀ j, j < ni → w.cell? ⟨b, o + j, none⟩ = some (.int .u16 (I3 j))) (hI3 : ∀ j, 0 ≤ I3 j ∧ I3 j ≤ 65535)
    (hs4 : ∀ i, i < no → ∃ b o, a4 = some ⟨b, o, none⟩ ∧ b < w.heap.size ∧ ∀ j, j < no → w.cell? ⟨b, o + j, none⟩ = some (.int .u16 (I4 j))) (hI4 : ∀ j, 0 ≤ I4 j ∧ I4 j ≤ 65535) :
    Calls Ybaf.prog 3 #[.slice a0 n c0, .slice a1 ne c1, .int .u16 X, .slice a3 ni c3, .slice a4 no c4] w fun e w' => e = .returned (.bool true) ∧ Below w.heap.size w w' := by
  by_cases h : n ≤ 300 ∧ ne ≤ 2048 ∧ ni ≤ 2048 ∧ no ≤ 2048
  · obtain ⟨h1, h2, h3, h4⟩ := h
    have lz : ∀ (I : Nat → Int) (k : Nat), ((List.range k).map fun i => pz (I i) n).length = k := fun I k => by simp
    have gz : ∀ (I : Nat → Int) (k i : Nat), i < k → ((List.range k).map fun i => pz (I i) n).getD i none = pz (I i) n := fun I k i hi => by
      rw [List.getD_eq_getElem?_getD, List.getElem?_map, List.getElem?_range hi]; rfl
    have mz : ∀ (I : Nat → Int) (k : Nat), ∀ z ∈ (List.range k).map (fun i => pz (I i) n), ∀ p, z = some p → p < n := fun I k z hz p hp => by
      obtain ⟨i, _, rfl⟩ := List.mem_map.1 hz
      exact pz_lt _ _ _ hp
    have key := law_main F w hF n h1 a0 c0 Wf (fun j _ => hIw j) hsw ne h2 a1 c1 Xf Yf Zf (fun j _ => hIe j) hse X hx.1 hx.2 I3 I4 ((List.range ni).map fun i => pz (I3 i) n) ((List.range no).map fun i => pz (I4 i) n) (by rw [lz]; exact h3) (by rw [lz]; exact h4) a3 a4 c3 c4
      (fun i hi => by rw [lz] at hi; exact ⟨gz I3 ni i hi, hI3 i⟩) (fun i hi => by rw [lz] at hi; exact ⟨gz I4 no i hi, hI4 i⟩) (mz I3 ni) (mz I4 no) (by rw [lz]; exact hs3) (by rw [lz]; exact hs4)
    rw [lz, lz] at key
    exact key
  · exact law_early w a0 a1 a3 a4 n ne ni no c0 c1 c3 c4 X h

theorem laidOut0 : laidOutB Ybaf.prog = true := by kernel_rfl

set_option maxRecDepth 100000 in
theorem t_lifted (os : Os) (started : os.Started) (H : Type) (enc : TypeId × Value → H) :
    ReturnsInTold none {} Ybaf.checked os 3 .any Input.okWide ((OpenSpec.ofChange Rows.lawS6460BWholeSpec).preRow enc Ybaf.prog Ybaf.f3 [] false []) (fun F => ((OpenSpec.ofChange Rows.lawS6460BWholeSpec).at F).post enc Ybaf.prog Ybaf.f3 false true false false) (aloneAtReturn Ybaf.prog) nothingAlways := by
  refine returnsInTold_of_row (C := Ybaf.checked) (s := OpenSpec.ofChange Rows.lawS6460BWholeSpec) (by kernel_rfl) own started (by kernel_rfl) Ybaf.func3
    (OpenSpec.witness_stopped (enc := enc) (C := Ybaf.checked) false ⟨#[], #[.slice none 0 0, .slice none 0 0, .int .u16 0, .slice none 0 0, .slice none 0 0], []⟩ 8 (by kernel_rfl) (by kernel_rfl) (by kernel_rfl) (by kernel_rfl)) ?_
  intro F W base args ds gs before _ hF hval0 hW _ _ _ _ _
  have hval : ∀ (j : Nat) t v, Ybaf.f3.params[j]? = some t → args[j]? = some v → Value.okWide Ybaf.prog W .any base t v := hval0
  have hW' := hW
  obtain ⟨p, q, hA0, hV, rfl, hfz, hnd⟩ := hW
  have hA : DataW.TrodAll enc Ybaf.prog W 0 (fun _ => true) true Ybaf.f3.params.toList args.toList ds p := hA0
  rw [Ybaf.params3] at hA hval
  obtain ⟨v0, vs0, d0, ds0, p0, q0, hargs, rfl, rfl, h0, r0⟩ := trodAll_cons hA
  obtain ⟨v1, vs1, d1, ds1, p1, q1, rfl, rfl, rfl, h1, r1⟩ := trodAll_cons r0
  obtain ⟨v2, vs2, d2, ds2, p2, q2, rfl, rfl, rfl, h2, r2⟩ := trodAll_cons r1
  obtain ⟨v3, vs3, d3, ds3, p3, q3, rfl, rfl, rfl, h3, r3⟩ := trodAll_cons r2
  obtain ⟨v4, vs4, d4, ds4, p4, q4, rfl, rfl, rfl, h4, r4⟩ := trodAll_cons r3
  obtain ⟨rfl, rfl, rfl⟩ := trodAll_nil r4
  obtain rfl : args = #[v0, v1, v2, v3, v4] := by cases args; simp_all
  obtain ⟨rfl, rfl⟩ := trodVars_none hV
  obtain ⟨a0, n, c0, rfl⟩ := okWide_slice Ybaf.underlying22 (hval 0 22 v0 rfl rfl)
  have k0 := h0
  have lt0 : ∀ x ∈ p0, x.block < W.heap.size := by obtain ⟨m, hm⟩ := k0; exact DataW.trod_lt m _ _ _ hm
  obtain ⟨a1, ne, c1, rfl⟩ := okWide_slice Ybaf.underlying23 (hval 1 23 v1 rfl rfl)
  have k1 := h1
  have lt1 : ∀ x ∈ p1, x.block < W.heap.size := by obtain ⟨m, hm⟩ := k1; exact DataW.trod_lt m _ _ _ hm
  obtain ⟨X, rfl, rfl, rfl, w2⟩ := open_int Ybaf.underlying24 (hval 2 24 v2 rfl rfl) h2
  obtain ⟨a3, ni, c3, rfl⟩ := okWide_slice Ybaf.underlying25 (hval 3 25 v3 rfl rfl)
  have k3 := h3
  have lt3 : ∀ x ∈ p3, x.block < W.heap.size := by obtain ⟨m, hm⟩ := k3; exact DataW.trod_lt m _ _ _ hm
  obtain ⟨a4, no, c4, rfl⟩ := okWide_slice Ybaf.underlying25 (hval 4 25 v4 rfl rfl)
  have k4 := h4
  have lt4 : ∀ x ∈ p4, x.block < W.heap.size := by obtain ⟨m, hm⟩ := k4; exact DataW.trod_lt m _ _ _ hm
  obtain ⟨Wf, hsw, hIw⟩ := came1 Ybaf.underlying22 Ybaf.underlying5 cells5 (lo := 0) (hi := 255) (by decide) (fun z hz => bounds_u8 hz) (by obtain ⟨m, hm⟩ := h0; exact ⟨m, hm⟩)
  obtain ⟨Xf, Yf, Zf, hse, hIe⟩ := came3 (by obtain ⟨m, hm⟩ := h1; exact ⟨m, hm⟩)
  obtain ⟨I3, hs3, hI3⟩ := came1 Ybaf.underlying25 Ybaf.underlying24 cells24 (lo := 0) (hi := 65535) (by decide) (fun z hz => bounds_u16 hz) (by obtain ⟨m, hm⟩ := h3; exact ⟨m, hm⟩)
  obtain ⟨I4, hs4, hI4⟩ := came1 Ybaf.underlying25 Ybaf.underlying24 cells24 (lo := 0) (hi := 65535) (by decide) (fun z hz => bounds_u16 hz) (by obtain ⟨m, hm⟩ := h4; exact ⟨m, hm⟩)
  clear hA0 hval0
  refine (law_any F.told W hF n ne ni no a0 a1 a3 a4 c0 c1 c3 c4 Wf Xf Yf Zf I3 I4 X (bounds_u16 w2) hsw hIw hse hIe hs3 hI3 hs4 hI4).mono fun e W' ⟨he, bel⟩ => ?_
  subst he
  exact ⟨_, rfl, _, _, _, [], _, [], hW', trodAll_mk1 (shut_bool Ybaf.underlying4 _), (trodAll_cons_mk (Below.trod laidOut0 (by kernel_rfl) (of_decide_eq_true (by kernel_rfl)) k0 bel lt0) (trodAll_cons_mk (Below.trod laidOut0 (by kernel_rfl) (of_decide_eq_true (by kernel_rfl)) k1 bel lt1) (trodAll_cons_mk (shut_int Ybaf.underlying24 w2) (trodAll_cons_mk (Below.trod laidOut0 (by kernel_rfl) (of_decide_eq_true (by kernel_rfl)) k3 bel lt3) (trodAll_cons_mk (Below.trod laidOut0 (by kernel_rfl) (of_decide_eq_true (by kernel_rfl)) k4 bel lt4) trodAll_mk0))))), rfl, bel.frame _, fun h => by cases h⟩

theorem laidOut : laidOutB Ybaf.pinned.checked.prog = true := by kernel_rfl
theorem stops : Ybaf.pinned.checked.prog.stops = ["fmt.errorf"] := by kernel_rfl
theorem stopKnobs : Ybaf.pinned.checked.prog.stopKnobs = [] := by kernel_rfl
theorem quiet (os : Os) : Stop.quiet Ybaf.pinned.checked.prog os := by
  intro k hk
  rw [stopKnobs] at hk
  cases hk

theorem proved : Rows.LawS6460BWholeToldSaid :=
  Claim7.holds_of_told_any 3 Ybaf.f3 "fmt.errorf" [] [] _ _ _ (by kernel_rfl) rfl rfl rfl laidOut (by kernel_rfl) rfl ⟨rfl, rfl, rfl, rfl, rfl, rfl, rfl⟩ rfl rfl (by kernel_rfl) (by kernel_rfl) Ybaf.func3 (by kernel_rfl)
    (of_decide_eq_true (by kernel_rfl)) (by unfold Func.isWrapper; first | (rw [if_pos (by decide +kernel)]; kernel_rfl) | (rw [if_neg (by decide +kernel)]; exact ⟨rfl, rfl⟩)) stops.symm rfl stopKnobs.symm (by kernel_rfl)
    (by kernel_rfl) (by kernel_rfl) (by kernel_rfl) (by kernel_rfl) (by kernel_rfl) (by kernel_rfl) (by kernel_rfl) (by kernel_rfl) (by kernel_rfl) rfl (by kernel_rfl) rfl rfl
    rfl rfl
    rfl (by kernel_rfl) (by kernel_rfl) (by kernel_rfl) (by decide) (by kernel_rfl)
    (OpenClaim.moreEntering_of (by kernel_rfl) (by kernel_rfl) (by kernel_rfl) (by kernel_rfl) (by kernel_rfl) (by kernel_rfl) (by kernel_rfl) (by kernel_rfl) (by kernel_rfl) (by kernel_rfl))
    ⟨_, WideRow.started_initial, quiet _⟩
    (fun os started _ H enc _ => t_lifted os started H enc)

end Go.Proofs.YbulkectmFmt
