import Derived.Test.YbulkecuoBEarly
import Derived.Deep.SlicePairs
import Derived.SizedLaws
import Derived.WalkKit
import Derived.ProofKit
import Derived.OpenShut
import Derived.ShutString
import Derived.ChangeOld
import Derived.Below
namespace Go.Proofs.Ybulkecuo.lawS6462BWhole
open Go.ChangeShapes Go.WideShapes Go.ChangeAt Go.RowKit Go.Deep
set_option linter.unusedVariables false

theorem own : ownKnob Yba.prog.godebug = none := by kernel_rfl
theorem laidOut : laidOutB Yba.prog = true := by kernel_rfl
theorem cells54 : Yba.prog.cellsOf 54 = 2 := by kernel_rfl
theorem cells5 : Yba.prog.cellsOf 5 = 1 := by kernel_rfl
theorem bytes54 : Yba.prog.bytesOf 54 = 2 := by kernel_rfl

/-- A slice of pairs of bytes that came in, opened. -/
theorem came {H : Type} {enc : TypeId × Value → H} {W : World} {a : Option Addr} {len cap : Nat} {d : DataW H} {p : List MemPlace} (h : ∃ n, DataW.trod enc Yba.prog W 0 (fun _ => true) true n 46 [.slice a len cap] = some (d, p)) :
    ∃ T M : Nat → Int, B.Came2 W a len T M ∧ (∀ i, 0 ≤ T i ∧ T i ≤ 255) ∧ (∀ i, 0 ≤ M i ∧ M i ≤ 255) ∧ ((d = .nil ∧ len = 0) ∨ ∃ es sp, d = .slice es sp ∧ es.length = len) := by
  obtain ⟨n, t0⟩ := h
  rcases open_slice_pairs Yba.underlying46 Yba.underlying54 cells54 rfl rfl cells5 cells5 t0 with ⟨hc, hx⟩ | ⟨a', len', cap', m, k, V0, V1, D0, D1, P0, P1, hc, _, hl, hm, hmm, hx, hall⟩
  · simp only [List.cons.injEq, and_true, Value.slice.injEq] at hc
    obtain ⟨rfl, rfl, rfl⟩ := hc
    simp only [Prod.mk.injEq] at hx
    exact ⟨fun _ => 0, fun _ => 0, fun i hi => absurd hi (by omega), fun _ => by simp, fun _ => by simp, .inl ⟨hx.1, rfl⟩⟩
  · simp only [List.cons.injEq, and_true, Value.slice.injEq] at hc
    obtain ⟨rfl, rfl, rfl⟩ := hc
    simp only [if_true] at hmm
    simp only [Prod.mk.injEq] at hx
    have h0 : ∀ i, i < m → ∃ z : Int, V0 i = .int .u8 z ∧ (Lit.int .u8 z).wf = true := fun i hi => by
      obtain ⟨z, h1, h2, h3⟩ := DataW.trod_int Yba.underlying5 (hall i hi).2.2.1
      simp only [List.cons.injEq, and_true] at h1
      exact ⟨z, h1, h3⟩
    have h1 : ∀ i, i < m → ∃ z : Int, V1 i = .int .u8 z ∧ (Lit.int .u8 z).wf = true := fun i hi => by
      obtain ⟨z, h1, h2, h3⟩ := DataW.trod_int Yba.underlying5 (hall i hi).2.2.2
      simp only [List.cons.injEq, and_true] at h1
      exact ⟨z, h1, h3⟩
    obtain ⟨T, hT⟩ := choose_lt h0
    obtain ⟨M, hM⟩ := choose_lt h1
    refine ⟨fun i => if i < m then T i else 0, fun i => if i < m then M i else 0, ?_, fun i => ?_, fun i => ?_, .inr ⟨_, _, hx.1, by simp⟩⟩
    · intro i hi
      obtain ⟨b, off, spot⟩ := a'
      have hspot : spot = none := by simpa [Addr.add] using World.cell?_spot (hall 0 (by omega)).1
      subst hspot
      refine ⟨b, off, rfl, fun j hj => ?_⟩
      have hjm : j < m := by omega
      have hc := hall j hjm
      have e0 : (⟨b, off, none⟩ : Addr).add (j * 2) = ⟨b, off + j * 2, none⟩ := Addr.add_lit _ _ _
      have e1 : (⟨b, off, none⟩ : Addr).add (j * 2 + 1) = ⟨b, off + j * 2 + 1, none⟩ := Addr.add_lit _ _ _
      rw [e0, e1] at hc
      simp only [if_pos hjm]
      exact ⟨hc.1.trans (by rw [(hT j hjm).1]), hc.2.1.trans (by rw [(hM j hjm).1])⟩
    · by_cases e : i < m
      · simp only [if_pos e]; exact bounds_u8 (hT i e).2
      · simp [e]
    · by_cases e : i < m
      · simp only [if_pos e]; exact bounds_u8 (hM i e).2
      · simp [e]

set_option maxRecDepth 100000 in
theorem lifted (os : Os) (started : os.Started) (H : Type) (enc : TypeId × Value → H) :
    ReturnsInHanded {} Yba.checked os 4 .any (Rows.lawS6462BWholeSpec.pre6 enc Yba.prog Yba.f4 Rows.lawS6462BWholeRow.domain false) (Rows.lawS6462BWholeSpec.post enc Yba.prog Yba.f4 false true false false) := by
  refine returnsInHanded_of_change_sized (C := Yba.checked) own started (by kernel_rfl) Yba.func4
    (ChangeSpec.witness6 (enc := enc) (C := Yba.checked) false ⟨#[], #[.slice none 0 0, .slice none 0 0, .int .u8 0, .int .u8 0], []⟩ 8 (by kernel_rfl) (by kernel_rfl) (by kernel_rfl) (by kernel_rfl)) ?_
  intro W base args ds gs before hval0 hW hcnd hsz0 _
  have hval : ∀ (j : Nat) t v, Yba.f4.params[j]? = some t → args[j]? = some v → Value.okWide Yba.prog W .any base t v := hval0
  have hsz : (DataW.weightsEach Yba.prog (Yba.f4.params.toList ++ Rows.lawS6462BWholeSpec.plain.varTypes Yba.prog) (ds ++ gs)).all (· ≤ reachBytes) = true := hsz0
  have hW' := hW
  obtain ⟨p, q, hA0, hV, rfl, hfz, hnd⟩ := hW
  have hA : DataW.TrodAll enc Yba.prog W 0 (fun _ => true) true Yba.f4.params.toList args.toList ds p := hA0
  rw [Yba.params4] at hA hval hsz
  obtain ⟨v0, vs0, d0, ds0, p0, q0, hargs, rfl, rfl, h0, r0⟩ := trodAll_cons hA
  obtain ⟨v1, vs1, d1, ds1, p1, q1, rfl, rfl, rfl, h1, r1⟩ := trodAll_cons r0
  obtain ⟨v2, vs2, d2, ds2, p2, q2, rfl, rfl, rfl, h2, r2⟩ := trodAll_cons r1
  obtain ⟨v3, vs3, d3, ds3, p3, q3, rfl, rfl, rfl, h3, r3⟩ := trodAll_cons r2
  obtain ⟨rfl, rfl, rfl⟩ := trodAll_nil r3
  obtain rfl : args = #[v0, v1, v2, v3] := by cases args; simp_all
  obtain ⟨rfl, rfl⟩ := trodVars_none hV
  obtain ⟨a0, len0, cap0, rfl⟩ := okWide_slice Yba.underlying46 (hval 0 46 v0 rfl rfl)
  have k0 := h0
  have lt0 : ∀ x ∈ p0, x.block < W.heap.size := by obtain ⟨m, hm⟩ := k0; exact DataW.trod_lt m _ _ _ hm
  obtain ⟨a1, len1, cap1, rfl⟩ := okWide_slice Yba.underlying46 (hval 1 46 v1 rfl rfl)
  have k1 := h1
  have lt1 : ∀ x ∈ p1, x.block < W.heap.size := by obtain ⟨m, hm⟩ := k1; exact DataW.trod_lt m _ _ _ hm
  obtain ⟨x2, rfl, rfl, rfl, w2⟩ := open_int Yba.underlying5 (hval 2 5 v2 rfl rfl) h2
  obtain ⟨x3, rfl, rfl, rfl, w3⟩ := open_int Yba.underlying5 (hval 3 5 v3 rfl rfl) h3
  obtain ⟨T0, M0, hc0, bT0, bM0, hd0⟩ := came (by obtain ⟨n, hn⟩ := h0; exact ⟨n, hn⟩)
  obtain ⟨T1, M1, hc1, bT1, bM1, hd1⟩ := came (by obtain ⟨n, hn⟩ := h1; exact ⟨n, hn⟩)
  have hl0 : len0 ≤ 70368744177664 := by
    rcases hd0 with ⟨_, e⟩ | ⟨es, sp, rfl, e⟩
    · omega
    · have := sized_slice hsz (j := 0) (t := 46) (e := 54) rfl rfl Yba.underlying46
      rw [bytes54] at this
      simp only [reachBytes] at this
      omega
  have hl1 : len1 ≤ 70368744177664 := by
    rcases hd1 with ⟨_, e⟩ | ⟨es, sp, rfl, e⟩
    · omega
    · have := sized_slice hsz (j := 1) (t := 46) (e := 54) rfl rfl Yba.underlying46
      rw [bytes54] at this
      simp only [reachBytes] at this
      omega
  clear hA0 hval0 hsz0
  refine (B.walk_all x3 x2 a0 a1 len0 cap0 len1 cap1 T0 M0 T1 M1 W hl0 hl1 hc0 hc1 bT0 bM0 bT1 bM1 (bounds_u8 w3) (bounds_u8 w2)).mono fun e W' ⟨he, bel⟩ => ?_
  subst he
  exact ⟨_, rfl, _, _, _, [], _, [], hW', trodAll_mk1 (shut_bool Yba.underlying4 _), (trodAll_cons_mk (Below.trod laidOut (by kernel_rfl) (of_decide_eq_true (by kernel_rfl)) k0 bel lt0) (trodAll_cons_mk (Below.trod laidOut (by kernel_rfl) (of_decide_eq_true (by kernel_rfl)) k1 bel lt1) (trodAll_cons_mk (shut_int Yba.underlying5 w2) (trodAll_cons_mk (shut_int Yba.underlying5 w3) trodAll_mk0)))), rfl, bel.frame _, fun h => by cases h⟩

theorem over : Rows.lawS6462BWholeRow.holds Yba.pinned (OpenSpec.ofChange Rows.lawS6462BWholeSpec) :=
  OpenClaim.holds_of_wide 4 Yba.f4 rfl rfl rfl rfl rfl rfl rfl ⟨rfl, rfl, rfl, rfl, rfl⟩ rfl rfl rfl rfl rfl (by kernel_rfl) Yba.func4 (by kernel_rfl)
    (of_decide_eq_true (by kernel_rfl)) (by unfold Func.isWrapper; first | (rw [if_pos (by decide +kernel)]; kernel_rfl) | (rw [if_neg (by decide +kernel)]; exact ⟨rfl, rfl⟩))
    (fun os started H enc _ => lifted os started H enc)

theorem proved : Rows.LawS6462BWholeSaid := over
end Go.Proofs.Ybulkecuo.lawS6462BWhole
