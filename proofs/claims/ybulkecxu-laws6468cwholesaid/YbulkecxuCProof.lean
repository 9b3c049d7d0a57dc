import Derived.Test.YbulkecxuCEarly
import Derived.Deep.Slices
import Derived.MapViews
import Derived.WalkKit
import Derived.ProofKit
import Derived.OpenShut
import Derived.ShutString
import Derived.ChangeOld
import Derived.Below
namespace Go.Proofs.Ybulkecxu.lawS6468CWhole
open Go.ChangeShapes Go.WideShapes Go.ChangeAt Go.RowKit Go.Deep
set_option linter.unusedVariables false

theorem own : ownKnob Yba.prog.godebug = none := by kernel_rfl
theorem laidOut : laidOutB Yba.prog = true := by kernel_rfl

/-- A slice of members that came in, opened. -/
theorem came {H : Type} {enc : TypeId × Value → H} {W : World} {a : Option Addr} {len cap : Nat} {d : DataW H} {p : List MemPlace} (h : ∃ n, DataW.trod enc Yba.prog W 0 (fun _ => true) true n 22 [.slice a len cap] = some (d, p)) :
    ∃ E : Nat → List Value, C.Came W a len E ∧ (a = none → len = 0 ∧ cap = 0) := by
  obtain ⟨n, t0⟩ := h
  rcases open_slice Yba.underlying22 t0 with ⟨hc, hx⟩ | ⟨a', len', cap', m, k, D, Pl, hc, _, hl, hm, hmm, hx, hall⟩
  · simp only [List.cons.injEq, and_true, Value.slice.injEq] at hc
    obtain ⟨rfl, rfl, rfl⟩ := hc
    exact ⟨fun _ => [], fun i hi => absurd hi (by omega), fun _ => ⟨rfl, rfl⟩⟩
  · simp only [List.cons.injEq, and_true, Value.slice.injEq] at hc
    obtain ⟨rfl, rfl, rfl⟩ := hc
    simp only [if_true] at hmm
    rw [C.cells28] at hall
    obtain ⟨E, hE⟩ := choose_lt hall
    refine ⟨E, fun i hi => ?_, fun e => by cases e⟩
    have hmem : ∀ j, j < m → C.Mem (E j) := fun j hj => ⟨_, (keyLits_of_trod 3 28 (by kernel_rfl) k (E j) _ (hE j hj).2).1⟩
    have him : i < m := by omega
    refine ⟨hmem i him, ?_⟩
    obtain ⟨b, off, spot⟩ := a'
    have hspot : spot = none := by
      have h0 := World.cells?_some (hE 0 (by omega)).1
      have hl0 := (hmem 0 (by omega)).len
      have := h0.2.2 0 (by omega)
      rw [List.getElem?_eq_getElem (by omega)] at this
      simpa [Addr.add] using World.cell?_spot this
    subst hspot
    refine ⟨b, off, rfl, fun j hj q u hu => ?_⟩
    have hjm : j < m := by omega
    have hc := World.cells?_some (hE j hjm).1
    have hq : q < 21 := by have := (List.getElem?_eq_some_iff.1 hu).1; rw [hc.2.1] at this; exact this
    have := hc.2.2 q hq
    rw [Addr.add_mid, Addr.add_mid, hu] at this
    exact this

set_option maxRecDepth 100000 in
theorem lifted (os : Os) (started : os.Started) (H : Type) (enc : TypeId × Value → H) :
    ReturnsInHanded {} Yba.checked os 3 .any (Rows.lawS6468CWholeSpec.pre6 enc Yba.prog Yba.f3 Rows.lawS6468CWholeRow.domain false) (Rows.lawS6468CWholeSpec.post enc Yba.prog Yba.f3 false true false false) := by
  refine returnsInHanded_of_change (C := Yba.checked) own started (by kernel_rfl) Yba.func3
    (ChangeSpec.witness6 (enc := enc) (C := Yba.checked) false ⟨#[], #[.slice none 0 0, .slice none 0 0, .bool false, .int .u16 0], []⟩ 8 (by kernel_rfl) (by kernel_rfl) (by kernel_rfl) (by kernel_rfl)) ?_
  intro W base args ds gs before hval0 hW hcnd _
  have hval : ∀ (j : Nat) t v, Yba.f3.params[j]? = some t → args[j]? = some v → Value.okWide Yba.prog W .any base t v := hval0
  have hW' := hW
  obtain ⟨p, q, hA0, hV, rfl, hfz, hnd⟩ := hW
  have hA : DataW.TrodAll enc Yba.prog W 0 (fun _ => true) true Yba.f3.params.toList args.toList ds p := hA0
  rw [Yba.params3] at hA hval
  obtain ⟨v0, vs0, d0, ds0, p0, q0, hargs, rfl, rfl, h0, r0⟩ := trodAll_cons hA
  obtain ⟨v1, vs1, d1, ds1, p1, q1, rfl, rfl, rfl, h1, r1⟩ := trodAll_cons r0
  obtain ⟨v2, vs2, d2, ds2, p2, q2, rfl, rfl, rfl, h2, r2⟩ := trodAll_cons r1
  obtain ⟨v3, vs3, d3, ds3, p3, q3, rfl, rfl, rfl, h3, r3⟩ := trodAll_cons r2
  obtain ⟨rfl, rfl, rfl⟩ := trodAll_nil r3
  obtain rfl : args = #[v0, v1, v2, v3] := by cases args; simp_all
  obtain ⟨rfl, rfl⟩ := trodVars_none hV
  obtain ⟨a0, len0, cap0, rfl⟩ := okWide_slice Yba.underlying22 (hval 0 22 v0 rfl rfl)
  have k0 := h0
  have lt0 : ∀ x ∈ p0, x.block < W.heap.size := by obtain ⟨m, hm⟩ := k0; exact DataW.trod_lt m _ _ _ hm
  obtain ⟨a1, len1, cap1, rfl⟩ := okWide_slice Yba.underlying22 (hval 1 22 v1 rfl rfl)
  have k1 := h1
  have lt1 : ∀ x ∈ p1, x.block < W.heap.size := by obtain ⟨m, hm⟩ := k1; exact DataW.trod_lt m _ _ _ hm
  obtain ⟨x2, rfl, rfl, rfl⟩ := open_bool Yba.underlying4 (hval 2 4 v2 rfl rfl) h2
  obtain ⟨x3, rfl, rfl, rfl, w3⟩ := open_int Yba.underlying23 (hval 3 23 v3 rfl rfl) h3
  obtain ⟨F, hF, _⟩ := came (by obtain ⟨n, hn⟩ := h0; exact ⟨n, hn⟩)
  obtain ⟨S, hS, hnil⟩ := came (by obtain ⟨n, hn⟩ := h1; exact ⟨n, hn⟩)
  clear hA0 hval0
  have b3 := bounds_u16 w3
  refine (C.walk_all a0 a1 len0 cap0 len1 cap1 x2 x3 F S W hF hS hnil b3.1 b3.2).mono fun e W' ⟨he, bel⟩ => ?_
  subst he
  exact ⟨_, rfl, _, _, _, [], _, [], hW', trodAll_mk1 (shut_bool Yba.underlying4 _), (trodAll_cons_mk (Below.trod laidOut (by kernel_rfl) (of_decide_eq_true (by kernel_rfl)) k0 bel lt0) (trodAll_cons_mk (Below.trod laidOut (by kernel_rfl) (of_decide_eq_true (by kernel_rfl)) k1 bel lt1) (trodAll_cons_mk (shut_bool Yba.underlying4 _) (trodAll_cons_mk (shut_int Yba.underlying23 w3) trodAll_mk0)))), rfl, bel.frame _, fun h => by cases h⟩

theorem over : Rows.lawS6468CWholeRow.holds Yba.pinned (OpenSpec.ofChange Rows.lawS6468CWholeSpec) :=
  OpenClaim.holds_of_wide 3 Yba.f3 rfl rfl rfl rfl rfl rfl rfl ⟨rfl, rfl, rfl, rfl, rfl⟩ rfl rfl rfl rfl rfl (by kernel_rfl) Yba.func3 (by kernel_rfl)
    (of_decide_eq_true (by kernel_rfl)) (by unfold Func.isWrapper; first | (rw [if_pos (by decide +kernel)]; kernel_rfl) | (rw [if_neg (by decide +kernel)]; exact ⟨rfl, rfl⟩))
    (fun os started H enc _ => lifted os started H enc)

theorem proved : Rows.LawS6468CWholeSaid := over
end Go.Proofs.Ybulkecxu.lawS6468CWhole
