import Derived.Test.YbulkecweFmtWalks
namespace Go.Proofs.YbulkecweFmt
open Go.RowKit Go.Extern.Stop Go.Stop Go.Extern

theorem grown_trans {a b c : World} (h : Grown a b) (h' : Grown b c) : Grown a c :=
  ⟨World.keptBut_trans h.1 (World.keptBut_mono (fun _ f => f.elim) h'.1), fun x => (h'.2.1 x).trans (h.2.1 x), Nat.le_trans h.2.2 h'.2.2⟩

set_option maxHeartbeats 1000000 in
theorem law_one (F : Interp) (el mn mx nr : Int) (h : Bool) (w : World) (hF : F.answers w.tape) (m0 : 0 ≤ mn) (m1 : mn ≤ 4294967295) (x0 : 0 ≤ mx) (x1 : mx ≤ 4294967295) (n0 : 0 ≤ nr) (n1 : nr ≤ 255) (hn : nr % 4 = 1) :
    Calls Ybaf.prog 3 #[.int .u8 el, .int .u32 mn, .int .u32 mx, .bool h, .int .u8 nr] w fun e w' => e = .returned (.bool true) ∧ Grown w w' := by
  go_enter Ybaf.func3, Ybaf.ntmps3
  go_wp2_with fail
  all_goals first
    | (refine (validate_high F _ _ _ _ _ ?_ ?_).mono ?_
       · exact hF
       · omega
       · rintro e w' ⟨⟨a, rfl⟩, hg⟩
         go_wp2
         go_ret
         exact ⟨rfl, grown_trans (by repeat (first | exact Grown.refl _ | apply Grown.drew | apply Grown.alloc)) hg⟩)
    | (refine (validate_ok _ _ _ _ _ ?_ ?_).mono ?_
       · omega
       · intro hh
         first | (cases hh; done) | omega
       · rintro e w' ⟨rfl, hg⟩
         go_wp2
         go_ret
         exact ⟨rfl, grown_trans (by repeat (first | exact Grown.refl _ | apply Grown.drew | apply Grown.alloc)) hg⟩)
    | (refine (validate_cross F _ _ _ _ ?_ ?_ ?_).mono ?_
       · exact hF
       · omega
       · omega
       · rintro e w' ⟨⟨a, rfl⟩, hg⟩
         go_wp2
         go_ret
         exact ⟨rfl, grown_trans (by repeat (first | exact Grown.refl _ | apply Grown.drew | apply Grown.alloc)) hg⟩)

set_option maxHeartbeats 1000000 in
theorem law_two (F : Interp) (el mn mx nr : Int) (h : Bool) (w : World) (hF : F.answers w.tape) (m0 : 0 ≤ mn) (m1 : mn ≤ 4294967295) (x0 : 0 ≤ mx) (x1 : mx ≤ 4294967295) (n0 : 0 ≤ nr) (n1 : nr ≤ 255) (hn : nr % 4 = 2) :
    Calls Ybaf.prog 3 #[.int .u8 el, .int .u32 mn, .int .u32 mx, .bool h, .int .u8 nr] w fun e w' => e = .returned (.bool true) ∧ Grown w w' := by
  go_enter Ybaf.func3, Ybaf.ntmps3
  go_wp2_with fail
  all_goals first
    | (refine (validate_high F _ _ _ _ _ ?_ ?_).mono ?_
       · exact hF
       · omega
       · rintro e w' ⟨⟨a, rfl⟩, hg⟩
         go_wp2
         go_ret
         exact ⟨rfl, grown_trans (by repeat (first | exact Grown.refl _ | apply Grown.drew | apply Grown.alloc)) hg⟩)
    | (refine (validate_ok _ _ _ _ _ ?_ ?_).mono ?_
       · omega
       · intro hh
         first | (cases hh; done) | omega
       · rintro e w' ⟨rfl, hg⟩
         go_wp2
         go_ret
         exact ⟨rfl, grown_trans (by repeat (first | exact Grown.refl _ | apply Grown.drew | apply Grown.alloc)) hg⟩)
    | (refine (validate_cross F _ _ _ _ ?_ ?_ ?_).mono ?_
       · exact hF
       · omega
       · omega
       · rintro e w' ⟨⟨a, rfl⟩, hg⟩
         go_wp2
         go_ret
         exact ⟨rfl, grown_trans (by repeat (first | exact Grown.refl _ | apply Grown.drew | apply Grown.alloc)) hg⟩)

set_option maxHeartbeats 1000000 in
theorem law_rest (F : Interp) (el mn mx nr : Int) (h : Bool) (w : World) (hF : F.answers w.tape) (m0 : 0 ≤ mn) (m1 : mn ≤ 4294967295) (x0 : 0 ≤ mx) (x1 : mx ≤ 4294967295) (n0 : 0 ≤ nr) (n1 : nr ≤ 255) (hn : (nr % 4 == 1) = false) (hn2 : (nr % 4 == 2) = false) :
    Calls Ybaf.prog 3 #[.int .u8 el, .int .u32 mn, .int .u32 mx, .bool h, .int .u8 nr] w fun e w' => e = .returned (.bool true) ∧ Grown w w' := by
  go_enter Ybaf.func3, Ybaf.ntmps3
  go_wp2_with fail
  all_goals first
    | (refine (validate_high F _ _ _ _ _ ?_ ?_).mono ?_
       · exact hF
       · omega
       · rintro e w' ⟨⟨a, rfl⟩, hg⟩
         go_wp2
         go_ret
         exact ⟨rfl, grown_trans (by repeat (first | exact Grown.refl _ | apply Grown.drew | apply Grown.alloc)) hg⟩)
    | (refine (validate_ok _ _ _ _ _ ?_ ?_).mono ?_
       · omega
       · intro hh
         first | (cases hh; done) | omega
       · rintro e w' ⟨rfl, hg⟩
         go_wp2
         go_ret
         exact ⟨rfl, grown_trans (by repeat (first | exact Grown.refl _ | apply Grown.drew | apply Grown.alloc)) hg⟩)
    | (refine (validate_cross F _ _ _ _ ?_ ?_ ?_).mono ?_
       · exact hF
       · omega
       · omega
       · rintro e w' ⟨⟨a, rfl⟩, hg⟩
         go_wp2
         go_ret
         exact ⟨rfl, grown_trans (by repeat (first | exact Grown.refl _ | apply Grown.drew | apply Grown.alloc)) hg⟩)

theorem law_any (F : Interp) (el mn mx nr : Int) (h : Bool) (w : World) (hF : F.answers w.tape) (m0 : 0 ≤ mn) (m1 : mn ≤ 4294967295) (x0 : 0 ≤ mx) (x1 : mx ≤ 4294967295) (n0 : 0 ≤ nr) (n1 : nr ≤ 255) :
    Calls Ybaf.prog 3 #[.int .u8 el, .int .u32 mn, .int .u32 mx, .bool h, .int .u8 nr] w fun e w' => e = .returned (.bool true) ∧ Grown w w' := by
  by_cases a : nr % 4 = 1
  · exact law_one F el mn mx nr h w hF m0 m1 x0 x1 n0 n1 a
  by_cases b : nr % 4 = 2
  · exact law_two F el mn mx nr h w hF m0 m1 x0 x1 n0 n1 b
  exact law_rest F el mn mx nr h w hF m0 m1 x0 x1 n0 n1 (beq_eq_false_iff_ne.2 a) (beq_eq_false_iff_ne.2 b)
end Go.Proofs.YbulkecweFmt
