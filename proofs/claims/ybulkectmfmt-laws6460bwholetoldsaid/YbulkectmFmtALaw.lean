import Derived.Test.YbulkectmFmtAT1
namespace Go.Proofs.YbulkectmFmt.A
set_option linter.unusedVariables false
set_option linter.unusedSimpArgs false
open Go.RowKit Go.Deep Go.Extern.Stop Go.Stop Go.Extern

set_option maxRecDepth 1000000 in
set_option maxHeartbeats 16000000 in
/-- The law within its bounds. -/
theorem law_main (F : Interp) (w : World) (hF : F.answers w.tape) (n : Nat) (hn : n ≤ 300) (a0 : Option Addr) (c0 : Nat) (Wf : Nat → Int) (hIw : ∀ j, j < n → 0 ≤ Wf j ∧ Wf j ≤ 255)
    (hsw : ∀ i, i < n → ∃ b o, a0 = some ⟨b, o, none⟩ ∧ b < w.heap.size ∧ ∀ j, j < n → w.cell? ⟨b, o + j, none⟩ = some (.int .u8 (Wf j)))
    (ne : Nat) (hne : ne ≤ 2048) (a1 : Option Addr) (c1 : Nat) (Xf Yf Zf : Nat → Int) (hIe : ∀ j, j < ne → (0 ≤ Xf j ∧ Xf j ≤ 65535) ∧ (0 ≤ Yf j ∧ Yf j ≤ 65535) ∧ 0 ≤ Zf j ∧ Zf j ≤ 255)
    (hse : ∀ i, i < ne → ∃ b o, a1 = some ⟨b, o, none⟩ ∧ b < w.heap.size ∧ ∀ j, j < ne → w.cell? ⟨b, o + j * 3, none⟩ = some (.int .u16 (Xf j)) ∧ w.cell? ⟨b, o + j * 3 + 1, none⟩ = some (.int .u16 (Yf j)) ∧ w.cell? ⟨b, o + j * 3 + 2, none⟩ = some (.int .u8 (Zf j)))
    (X : Int) (hx0 : 0 ≤ X) (hx1 : X ≤ 65535) (I3 I4 : Nat → Int) (zs os : List (Option Nat)) (hzl : zs.length ≤ 2048) (hol : os.length ≤ 2048) (a3 a4 : Option Addr) (c3 c4 : Nat)
    (hI3 : ∀ i, i < zs.length → zs.getD i none = pz (I3 i) n ∧ (0 ≤ I3 i ∧ I3 i ≤ 65535)) (hI4 : ∀ i, i < os.length → os.getD i none = pz (I4 i) n ∧ (0 ≤ I4 i ∧ I4 i ≤ 65535)) (hzs : ∀ z ∈ zs, ∀ p, z = some p → p < n) (hos : ∀ z ∈ os, ∀ p, z = some p → p < n)
    (hs3 : ∀ i, i < zs.length → ∃ b o, a3 = some ⟨b, o, none⟩ ∧ b < w.heap.size ∧ ∀ j, j < zs.length → w.cell? ⟨b, o + j, none⟩ = some (.int .u16 (I3 j)))
    (hs4 : ∀ i, i < os.length → ∃ b o, a4 = some ⟨b, o, none⟩ ∧ b < w.heap.size ∧ ∀ j, j < os.length → w.cell? ⟨b, o + j, none⟩ = some (.int .u16 (I4 j))) :
    Calls Ybaf.prog 3 #[.slice a0 n c0, .slice a1 ne c1, .int .u16 X, .slice a3 zs.length c3, .slice a4 os.length c4] w fun e w' => e = .returned (.bool true) ∧ Below w.heap.size w w' := by
  have u1 : decide ((n : Int) > 300) = false := decide_eq_false (by omega)
  have u2 : decide ((ne : Int) > 2048) = false := decide_eq_false (by omega)
  have u3 : decide ((zs.length : Int) > 2048) = false := decide_eq_false (by omega)
  have u4 : decide ((os.length : Int) > 2048) = false := decide_eq_false (by omega)
  have HF := hid hF
  have HIw := hid hIw
  have HSw := hid hsw
  have HIe := hid hIe
  have HSe := hid hse
  have HI3 := hid hI3
  have HI4 := hid hI4
  have HS3 := hid hs3
  have HS4 := hid hs4
  have HZS := hid hzs
  have HOS := hid hos
  clear hF hIw hsw hIe hse hI3 hI4 hs3 hs4 hzs hos
  go_enter Ybaf.func3, Ybaf.ntmps3
  refine wp_seq_k fun K0 hK0 => ?_
  have HK0 := hid hK0
  clear hK0
  go_wp2
  refine HK0.out _ _ ?_
  clear HK0
  refine wp_seq_k fun K1 hK1 => ?_
  have HK1 := hid hK1
  clear hK1
  go_wp2
  refine HK1.out _ _ ?_
  clear HK1
  refine lawTail3 F w HF.out n hn a0 c0 Wf HIw.out HSw.out ne hne a1 c1 Xf Yf Zf HIe.out HSe.out X hx0 hx1 I3 I4 zs os hzl hol a3 a4 c3 c4 HI3.out HI4.out HZS.out HOS.out HS3.out HS4.out _ _ _ _ _ _ _ _ _ _ _ _ _ _ _ _ _ _ _ _ _ _ _ _ _ _ _ _ _ _ _ _ _ _ _ _ _ _ _ _ _ _ _ _ _ _ _ _ _ _ _ _ _ _ _ _ _ _ _ _ _ _ _ _ _ _ _ _ _ _ _ _ _ _ _ _ _ _ _ _ _ _ _ _ _ _ _ _ _ _ _ _ _ _ _ _ _ _ _ _ _ _ _ _ _ _ _ _ _ _ _ _ _ _ _ _ _ _ _ _ _ _ _ _ _ _ _ _ _ _ _ _ _ _ _ _ _ _ _ _ _ _ _ _ _ _ _ _ _ _ _ _ _ _ _ _ _ _ _ _ _ _ _ _ _ _ _ _ _ _ _ _ _ _ _ _ _ _ _ _ _ _ _ _ _ _ _ _ _ _ _ _ _ _ _ _ _ _ _ _ _ _ _ _ _ _ _ _ _ _ _ _ _ _ _ _ _ _ _ _ _ _ _ _ _ _ _ _ _ _ _ _ _ _ _ _ _ _ _ _ _ _ _ _ _ _ _ _ _ _ _ _ _ _ _ _ _ _ _ _ _ _ _ _ _ _ _ _ _ _ _ _ _ _ _ _ _ _ _ _ _ _ _ _ _ _ _ _ _ _ _ _ _ _ _ _ _ _ _ _ _ _ _ _ _ _ _ _ _ _ _ _ _ _ _ _ _ _ _ _ _ _ _ _ _ _ _ _ _ _ _ _ _ _ _ _ _ _ _ _ _ _ _ _ _ _ _ _ _ _ _ _ _ _ _ _ _ _ _ _ _ _ _ _ _ _ _ _ _ _ _ _ _ _ _ _ _ _ _ _ _ _ _ _ _ _ _ _ _ _ _ _ _ _ _ _ _ _ _ _ _ _ _ _ _ _ _ _ _ _ _ _ _ _ _ _ _ _ _ _ _ _ _ _ _ _ _ _ _ _ _ _ _ _ _ _ _ _ _ _ _ _ _ _ _ _ _ _ _ _ _ _ _ _ _ _ _ _ _ _ _ _ _ _ _ _ _ _ _ _ _ _ _ _ _ _ _ _ _ _ _ _ _ _ _ _ _ _ _ _ _ _ _ _ _ _ _ _ _ _ _ _ _ _ _ _ _ _ _ _ _ _ _ _ _ _ _ _ _ _ _ _ _ _ _ _ _ _ _ _ _ _ _ _ _ _ _ _ _ _ _ _ _ _ _ _ _ _ _ _ _ _ _ _ _ _ _ _ _ _ _ _ _ _ _ _ _ _ _ _ _ _ _ _ _ _ _ _ _ _ _ _ _ _ _ _ _ _ _ _ _ _ _ _ _ _ _ _ _ _ _ _ _ _ _ _ _ _ _ _ _ _ _ _ _ _ _ _ _ _ _ _ _ _ _ _ _ _ _ _ _ _ _ _ _ _ _ _ _ _ _ _ _ _ _ _ _ _ _ _ _ _ _ _ _ _ _ _ _ _ _ _ _ _ _ _ _ _ _ _ _ _ _ _ _ _ _ _ _ _ _ _ _ _ _ _ _ _ _ _ _ _ _ _ _ _ _ _ _ _ _ _ _ _ _ _ _ _ _ _ _ _ _ _ _ _ _ _ _ _ _ _ _ _ _ _ _ _ _ _ _ _ _ _ _ _ _ _ _ _ _ _ _ _ _ _ _ _ _ _ _ _ _ _ _ _ _ _ _ _ _ _ _ _ _ ?_
  intro a W h1 h2 h3
  refine bodyPost_ret (results_tmp rfl _ _ _) h2 ⟨?_, h3⟩
  rw [Array.getD_eq_getD_getElem?, h1]
  rfl

set_option maxRecDepth 1000000 in
set_option maxHeartbeats 16000000 in
/-- The law beyond its bounds. -/
theorem law_early (w : World) (a0 a1 a3 a4 : Option Addr) (n ne ni no c0 c1 c3 c4 : Nat) (X : Int) (h : ¬ (n ≤ 300 ∧ ne ≤ 2048 ∧ ni ≤ 2048 ∧ no ≤ 2048)) :
    Calls Ybaf.prog 3 #[.slice a0 n c0, .slice a1 ne c1, .int .u16 X, .slice a3 ni c3, .slice a4 no c4] w fun e w' => e = .returned (.bool true) ∧ Below w.heap.size w w' := by
  by_cases h1 : n ≤ 300
  · have u1 : decide ((300 : Int) < (n : Int)) = false := decide_eq_false (by omega)
    by_cases h2 : ne ≤ 2048
    · have u2 : decide ((2048 : Int) < (ne : Int)) = false := decide_eq_false (by omega)
      by_cases h3 : ni ≤ 2048
      · have u3 : decide ((2048 : Int) < (ni : Int)) = false := decide_eq_false (by omega)
        have h4 : ¬ no ≤ 2048 := fun h4 => h ⟨h1, h2, h3, h4⟩
        have u4 : decide ((2048 : Int) < (no : Int)) = true := decide_eq_true (by omega)
        clear h
        go_enter Ybaf.func3, Ybaf.ntmps3
        go_wp2
        go_ret
        exact ⟨rfl, Below.refl _ _⟩
      · have u3 : decide ((2048 : Int) < (ni : Int)) = true := decide_eq_true (by omega)
        clear h
        go_enter Ybaf.func3, Ybaf.ntmps3
        go_wp2
        go_ret
        exact ⟨rfl, Below.refl _ _⟩
    · have u2 : decide ((2048 : Int) < (ne : Int)) = true := decide_eq_true (by omega)
      clear h
      go_enter Ybaf.func3, Ybaf.ntmps3
      go_wp2
      go_ret
      exact ⟨rfl, Below.refl _ _⟩
  · have u1 : decide ((300 : Int) < (n : Int)) = true := decide_eq_true (by omega)
    clear h
    go_enter Ybaf.func3, Ybaf.ntmps3
    go_wp2
    go_ret
    exact ⟨rfl, Below.refl _ _⟩

end Go.Proofs.YbulkectmFmt.A
