import Derived.Test.YbulkectmFmtAPlace
import Derived.Test.YbulkectmFmtAProp
namespace Go.Proofs.YbulkectmFmt.A
set_option linter.unusedVariables false
set_option linter.unusedSimpArgs false
open Go.RowKit Go.Deep Go.Extern.Stop Go.Stop Go.Extern

def sOf : Option Nat → ByteArray
  | some p => idStr p
  | none => missing
def pOf : Option Nat → Nat
  | some p => p
  | none => 0

/-- The places gathered so far. -/
def plAt (zs : List (Option Nat)) (k j : Nat) : Value := .int .i64 (if j < k then ((pOf (zs.getD j none) : Nat) : Int) else 0)

set_option maxRecDepth 100000 in
set_option maxHeartbeats 4000000 in
/-- places. -/
theorem places_any (F : Interp) (w : World) (hF : F.answers w.tape) (M : GM) (D : GD) (hn : D.n ≤ 300) (hG : Gr w M D) (hX : Ix M D) (a : Option Addr) (c : Nat) (zs : List (Option Nat)) (hrow : Row w (.slice a zs.length c) zs.length (fun j => .string (sOf (zs.getD j none)))) (hzs : ∀ z ∈ zs, ∀ p, z = some p → p < D.n) (hlen : zs.length ≤ 2048) :
    Calls Ybaf.prog 11 #[.pointer (some ⟨M.gp, 0, none⟩), .slice a zs.length c] w fun e w' => Below w.heap.size w w' ∧ ((none ∈ zs ∧ ∃ b, e = .returned (.tuple #[.slice none 0 0, .iface 89 (.pointer (some b))])) ∨ (none ∉ zs ∧ ∃ PB, w.heap.size ≤ PB ∧ e = .returned (.tuple #[.slice (some ⟨PB, 0, none⟩) zs.length zs.length, .nilIface]) ∧ w'.rowIs PB 3 zs.length (plAt zs zs.length))) := by
  have m3 := run_make_row' (P := Ybaf.prog) 27 3 (.int .i64 0) 8 Ybaf.underlying27 info3 rfl .i64 .i64 zs.length (by omega) (by omega)
  go_enter Ybaf.func11, Ybaf.ntmps11
  go_wp2
  obtain ⟨PB, hPB⟩ : ∃ PB, PB = w.heap.size := ⟨_, rfl⟩
  rw [← hPB]
  clear m3
  go_loopw [16] (fun x wr => ∃ k : Nat, k ≤ zs.length ∧ x = .int .i64 k ∧ Below w.heap.size w wr ∧ wr.rowIs PB 3 zs.length (plAt zs k) ∧ none ∉ zs.take k) (fun x _ => zs.length - (intOf x).toNat)
  case atStart =>
    refine ⟨0, Nat.zero_le _, rfl, (Below.refl _ _).alloc (Nat.le_refl _) _, ?_, by simp⟩
    rw [hPB]
    exact (made_row (blk_alloc_new _ _)).congr fun j _ => by simp [plAt]
  case round =>
    obtain ⟨k, hk, rfl, hB, hr, hnn⟩ := hrel
    by_cases hlt : k < zs.length
    · obtain ⟨a', c', e', hh⟩ := hrow
      cases e'
      obtain ⟨b, o, rfl, hc⟩ := hh k hlt
      have c0 : wr.cell? ⟨b, o + k, none⟩ = some (.string (sOf (zs.getD k none))) := cell_old hB (hc k hlt)
      have i0 : (0 : Int) ≤ (k : Int) := by omega
      have i1 : (k : Int) < (zs.length : Int) := by omega
      have hgz : zs.getD k none = zs[k] := by rw [List.getD_eq_getElem?_getD, List.getElem?_eq_getElem hlt]; rfl
      rw [hgz] at c0
      cases hz : zs[k] with
      | none =>
        rw [hz] at c0
        have HP := hid (place_bad F wr (by rw [hB.tape]; exact hF) M D (hG.keep hB) hX)
        have HB := hid hB
        have hin : none ∈ zs := by rw [← hz]; exact List.getElem_mem hlt
        have c0' : wr.cell? ⟨b, o + k, none⟩ = some (.string missing) := c0
        obtain ⟨S, hS⟩ : ∃ S, S = missing := ⟨_, rfl⟩
        rw [← hS] at c0' HP
        clear hB hr hnn hc hh c0 hgz hS hz hzs
        go_wp2_with fail
        refine (HP.out).mono ?_
        rintro e w' ⟨⟨bb, rfl⟩, hB'⟩
        have HB' := hid (below_up HB.out hB')
        clear HP hB'
        go_wp2
        go_ret2
        exact ⟨HB'.out, .inl ⟨hin, bb, rfl⟩⟩
      | some p =>
        rw [hz] at c0
        have hp : p < D.n := hzs (some p) (by rw [← hz]; exact List.getElem_mem hlt) p rfl
        have HP := hid (place_ok wr M D hn (hG.keep hB) hX p hp)
        have HB := hid hB
        have r1 := hr.cell hlt
        have r2 := hr.frozen k
        have hPl := hr.lt
        have HR : Hid ((wr.setCell ⟨PB, k, none⟩ (.int .i64 (p : Int))).rowIs PB 3 zs.length (plAt zs (k + 1))) := hid ((hr.set k _).congr fun j _ => by
          unfold plAt
          by_cases e : j = k
          · subst e
            rw [if_pos rfl, if_pos (by omega), hgz, hz]
            rfl
          · rw [if_neg e]
            by_cases h1 : j < k
            · rw [if_pos h1, if_pos (by omega)]
            · rw [if_neg h1, if_neg (by omega)])
        have HN : Hid (none ∉ zs.take (k + 1)) := hid (by
          rw [List.take_succ_eq_append_getElem hlt, List.mem_append, hz]
          simp [hnn])
        have c0' : wr.cell? ⟨b, o + k, none⟩ = some (.string (idStr p)) := c0
        obtain ⟨S, hS⟩ : ∃ S, S = idStr p := ⟨_, rfl⟩
        rw [← hS] at c0' HP
        have HPB := hid hPB
        clear hB hr hnn hc hh c0 hgz hS hz hzs hPB
        go_wp2_with fail
        refine (HP.out).mono ?_
        rintro e w' ⟨rfl, rfl⟩
        clear HP
        go_wp2
        go_roundw
        case rel => exact ⟨k + 1, by omega, by go_num, HB.out.setCell (by have := HPB.out; simp; omega) _, HR.out, HN.out⟩
        case measure => simp [intOf]; omega
    · have e : k = zs.length := by omega
      subst e
      rw [List.take_length] at hnn
      have HB := hid hB
      have HR := hid hr
      have HPB := hid hPB
      clear hB hr hPB hrow hzs
      go_wp2
      go_ret2
      exact ⟨HB.out, .inr ⟨hnn, PB, by rw [HPB.out]; exact Nat.le_refl _, rfl, HR.out⟩⟩

end Go.Proofs.YbulkectmFmt.A
