import Derived.Test.YbulkecuoBHeld
import Derived.Deep.LoopGhost
import Derived.Deep.RegionHeld3
import Derived.Test.YbulkecuoBRegion21
import Derived.Test.YbulkecuoBRegion16
namespace Go.Proofs.Ybulkecuo.B
open Go.RowKit Go.Deep

theorem own_form {w : World} {base n : Nat} {v : Value} {es : List (Nat × Int)} (h : w.ownsRow base 58 2 v n (flat es)) : ∃ ao cap, v = .slice ao n cap ∧ (0 < n → ∃ g, ao = some ⟨g, 0, none⟩) := by
  rcases h.2 with ⟨rfl, rfl⟩ | ⟨g, cap, cur, rfl, _⟩
  · exact ⟨none, 0, rfl, fun h => absurd h (by omega)⟩
  · exact ⟨_, cap, rfl, fun _ => ⟨g, rfl⟩⟩

/-- What letThrough hands back. -/
def LetPost (r : Option (List (Nat × Int) × List Nat)) (hd T0 : Nat) (v : Value) (w' : World) : Prop :=
  match r with
  | none => v = .slice none 0 0
  | some (_, outs) => w'.ownsRow (hd + 1) 47 1 v outs.length (outs.map fun t => Value.pointer (some ⟨T0 + t, 0, none⟩)) ∧ (outs = [] → v = .slice none 0 0)

theorem run_none {G : Int} {xi qpos : Nat} {qm : Int} {rq : Nat → Req} {h0 : List (Nat × Int)} {j : Nat} (h : run G xi qpos qm rq h0 j = none) : ∀ k, j ≤ k → run G xi qpos qm rq h0 k = none := by
  intro k hk
  induction k with
  | zero => have : j = 0 := by omega
            subst this; exact h
  | succ k ih =>
    by_cases e : j = k + 1
    · subst e; exact h
    · rw [run, ih (by omega)]

theorem L2.cp {w wr : World} {hd T0 n : Nat} {Nd : Nat → Nat} {pv : Nat} {v o : Value} {j : Nat} {h : List (Nat × Int)} {outs : List Nat} (hL : L2 w wr hd T0 n Nd pv v o j h outs) (hjn : j < n) : wr.cell? ⟨pv, 0, none⟩ = some (.pointer (some ⟨Nd j, 0, none⟩)) := by
  have := hL.pvb
  simp only [nxt, if_pos hjn] at this
  simp [World.cell?, this]

/-- The call of DeleteFunc. -/
theorem L2.delete {w wr : World} {T0 n R gb xi qpos : Nat} {Nd : Nat → Nat} {rq : Nat → Req} {G : Int} {pv : Nat} {v o : Value} {j : Nat} {h : List (Nat × Int)} {outs : List Nat} (hL : L2 w wr w.heap.size T0 n Nd pv v o j h outs) (hS : Store w T0 R gb n xi qpos Nd rq G) (hjn : j < n) (tj : Nat) (htj : tj < 8) (hn0 : tj = (rq j).t) (hlen : h.length ≤ 65536) (hlt : ∀ e ∈ h, e.1 < 8) :
    Calls Yba.prog 20 #[v, .func (.func 21) #[] #[.pointer (some ⟨pv, 0, none⟩)]] wr fun e w' => ∃ v', e = .returned v' ∧ L2 w (w'.setCell ⟨w.heap.size, 0, none⟩ v') w.heap.size T0 n Nd pv v' o j (struck tj h) outs ∧ w'.cell? ⟨w.heap.size, 0, none⟩ = some v ∧ w'.frozen? ⟨w.heap.size, 0, none⟩ = false ∧ w.heap.size < w'.heap.size := by
  have hSr := hS.keep (hL.held.below.mono (Nat.le_refl _))
  have hT : ∀ i, i < 8 → v.ownBlock ≠ some (T0 + i) := fun i hi => by
    obtain ⟨c, hc⟩ := hSr.blkT i hi
    exact own_ne hL.held.own hc (by decide)
  have hmem : ∀ e ∈ tb T0 h, ∃ i, i < 8 ∧ e.1 = T0 + i := fun e he => by
    obtain ⟨e0, he0, rfl⟩ := List.mem_map.1 he
    exact ⟨e0.1, hlt e0 he0, rfl⟩
  refine (delete_any (w.heap.size + 1) h.length pv (Nd j) (T0 + tj) v (tb T0 h) wr hL.held.own hlen ?_ (hSr.isT htj) (hL.cp hjn) ?_ (own_ne hL.held.own hL.pvb (by decide)) ?_ (hT tj htj) ?_).mono ?_
  · intro e he
    obtain ⟨i, hi, e1⟩ := hmem e he
    rw [e1]; exact hSr.isT hi
  · rw [hn0]; exact hSr.n0 j hjn
  · obtain ⟨c, hc⟩ := hSr.blkN j hjn
    exact own_ne hL.held.own hc (by decide)
  · intro e he
    obtain ⟨i, hi, e1⟩ := hmem e he
    rw [e1]; exact hT i hi
  · rintro e w' ⟨v', rfl, ho, -, hgr⟩
    rw [kept_tb, tb_length] at ho
    have hne : some w.heap.size ≠ v.ownBlock := fun e => by have := hL.held.own.lt _ e.symm; omega
    exact ⟨v', rfl, hL.del ho hgr, (hgr.cell_far _ hL.held.lt hne).trans hL.held.cell, (hgr.frozen_far _ hL.held.lt hne).trans hL.held.frozen, Nat.lt_of_lt_of_le hL.held.lt hgr.size⟩

set_option maxRecDepth 100000 in
set_option maxHeartbeats 2000000 in
theorem let_walk (Tb T0 R gb n xi qpos nh : Nat) (Nd : Nat → Nat) (rq : Nat → Req) (G : Int) (hs : List (Nat × Int)) (Hv : Value) (w : World) (hS : Store w T0 R gb n xi qpos Nd rq G)
    (hinj : ∀ i j, i < n → j < n → Nd i = Nd j → i = j) (hn : 0 < n) (hq : qpos < n) (hsz : nh + n ≤ 65536) (hxi : (rq qpos).t = xi) (hrt : ∀ j, (rq j).t < 8) (hht : ∀ e ∈ hs, e.1 < 8) (base : Nat) (hR3 : w.cell? ⟨R, 3, none⟩ = some Hv) (hHv : w.ownsRow base 58 2 Hv nh (flat (tb T0 hs))) :
    Calls Yba.prog 11 #[.pointer (some ⟨Tb, 0, none⟩), .pointer (some ⟨T0 + xi, 0, none⟩), .func (.func 9) #[] #[.pointer (some ⟨gb, 0, none⟩)]] w fun e w' => ∃ v, e = .returned v ∧ LetPost (run G xi qpos (rq qpos).m rq (notGone G hs hs.length) n) w.heap.size T0 v w' ∧ Below w.heap.size w w' := by
  have hwait := hS.wait
  have q1 := hS.n1 qpos hq
  have hl : hs.length = nh := by have := hHv.1; rw [flat_length, tb_length] at this; omega
  obtain ⟨i0, hi0, hz0, hz1, hz2⟩ := info_parts info58
  obtain ⟨ao, cap, rfl, hao⟩ := own_form hHv
  have l1 := lt_of_cell hwait
  have l2 := lt_of_cell q1
  have l3 := lt_of_cell hR3
  obtain ⟨h0, eh0⟩ : ∃ h0, h0 = notGone G hs hs.length := ⟨_, rfl⟩
  have hh0 : ∀ e ∈ h0, e.1 < 8 := fun e he => by rw [eh0] at he; exact hht e (notGone_mem he)
  have hh0l : h0.length ≤ nh := by rw [eh0]; have := notGone_length G hs hs.length; omega
  rw [← eh0]
  have HH0 := hid eh0
  clear eh0
  go_enter Yba.func11, Yba.ntmps11
  go_wp2
  go_loopw [26] (fun i wr => ∃ k : Nat, k ≤ nh ∧ i = .int .i64 k ∧ ∃ v, Held w wr w.heap.size T0 v (notGone G hs k)) (fun i _ => nh - (intOf i).toNat)
  case atStart =>
    refine ⟨0, Nat.zero_le _, rfl, .slice none 0 0, ⟨(Below.refl _ _).alloc (Nat.le_refl _) _, blk_alloc_new _ _, ?_⟩⟩
    exact ⟨rfl, .inl ⟨rfl, rfl⟩⟩
  case round =>
    obtain ⟨k, hk, rfl, v, hH⟩ := hrel
    by_cases hlt : k < nh
    · have hkl : k < hs.length := by omega
      obtain ⟨g, rfl⟩ := hao (by omega)
      have hkt : k < (tb T0 hs).length := by rw [tb_length]; omega
      have hcc := own_cells hHv k hkt
      have het : (tb T0 hs)[k] = (T0 + hs[k].1, hs[k].2) := by simp [tb]
      rw [het] at hcc
      have hgl := lt_of_cell hcc.1
      have c0 := (hH.below.cell (p := ⟨g, k * 2, none⟩) hgl).trans hcc.1
      have c1 := (hH.below.cell (p := ⟨g, k * 2 + 1, none⟩) hgl).trans hcc.2
      have hi8 := hht _ (List.getElem_mem hkl)
      obtain ⟨e, he⟩ : ∃ e, e = hs[k] := ⟨_, rfl⟩
      have hns := notGone_succ G hs k hkl
      rw [← he] at c0 c1 hi8 hns
      have hSr := hS.keep (hH.below.mono (Nat.le_refl _))
      have hbA : Below wr.heap.size wr (wr.alloc (.cells #[.pointer (some ⟨T0 + e.1, 0, none⟩), .int .u8 e.2] 58)) := (Below.refl _ _).alloc (Nat.le_refl _) _
      have hSA := hSr.keep hbA
      have hgone := gone_any (T0 + e.1) gb e.1 G _ hi8 hSA.gbc (hSA.age _ hi8)
      obtain ⟨t, ht⟩ : ∃ t, t = goneB G e.1 := ⟨_, rfl⟩
      rw [← ht] at hgone hns
      have HNS := hid hns
      clear he hcc het ht hns hSA
      go_wp2_with fail
      refine hgone.mono ?_
      rintro e' w' ⟨rfl, nn, rfl⟩
      have hbB : Below wr.heap.size wr ((wr.alloc (.cells #[.pointer (some ⟨T0 + e.1, 0, none⟩), .int .u8 e.2] 58)).drewN nn) := below_drewN hbA nn
      obtain ⟨W1, hW1⟩ : ∃ W1, W1 = (wr.alloc (.cells #[.pointer (some ⟨T0 + e.1, 0, none⟩), .int .u8 e.2] 58)).drewN nn := ⟨_, rfl⟩
      have d0 : W1.cell? ⟨wr.heap.size, 0, none⟩ = some (.pointer (some ⟨T0 + e.1, 0, none⟩)) := by rw [hW1]; simp
      have d1 : W1.cell? ⟨wr.heap.size, 1, none⟩ = some (.int .u8 e.2) := by rw [hW1]; simp
      rw [← hW1] at hbB ⊢
      have hH1 := hH.keep hbB
      clear hW1 hgone c0 c1 hbA hSr
      cases t with
      | true =>
        have HH := hid hH1
        have HN1 : Hid (notGone G hs (k + 1) = notGone G hs k) := hid (by simpa using HNS.out)
        clear hH1 hH hbB
        go_wp2
        go_roundw
        case rel => exact ⟨k + 1, by omega, by go_num, v, by rw [HN1.out]; exact HH.out⟩
        case measure => simp [intOf]; omega
      | false =>
        have hcv := hH1.cell
        have hcf := hH1.frozen
        have hnl := notGone_length G hs k
        have hown1 := hH1.own
        have hlt1 := hH1.lt
        have hbC : Below W1.heap.size W1 (W1.alloc (.cells #[.pointer (some ⟨T0 + e.1, 0, none⟩), .int .u8 e.2] 58)) := (Below.refl _ _).alloc (Nat.le_refl _) _
        have HN1 : Hid (notGone G hs (k + 1) = notGone G hs k ++ [e]) := hid (by simpa using HNS.out)
        have hnew : ∀ (j : Nat) (u : Value), [Value.pointer (some ⟨T0 + e.1, 0, none⟩), Value.int .u8 e.2][j]? = some u → (W1.alloc (.cells #[.pointer (some ⟨T0 + e.1, 0, none⟩), .int .u8 e.2] 58)).cell? ((⟨W1.heap.size, 0, none⟩ : Addr).add j) = some u := World.news_of_block (blk_alloc_new _ _)
        have hone : ∀ u ∈ [Value.pointer (some ⟨T0 + e.1, 0, none⟩), Value.int .u8 e.2], u.oneCell' = true := by intro u hu; simp at hu; rcases hu with rfl | rfl <;> rfl
        have h63 : (notGone G hs k).length + 1 ≤ maxLen := by unfold maxLen; omega
        have hbase : w.heap.size + 1 ≤ (W1.alloc (.cells #[.pointer (some ⟨T0 + e.1, 0, none⟩), .int .u8 e.2] 58)).heap.size := by rw [nblk_alloc]; omega
        have hadd := fun w1 g cap => Held.add (w1 := w1) (g := g) (cap := cap) hH1 hbC e
        have hH1lt : w.heap.size < W1.heap.size + 1 := by omega
        go_wp2_with ((at_builtin; refine wpList_append_lies _ rfl (.tmp 35) (.tmp 37) 49 rfl (w.heap.size + 1) 58 i0 (.agg #[.pointer none, .int .u8 0]) 2 16 Yba.underlying49 hi0 hz0 hz1 hz2 rfl (by omega) v (notGone G hs k).length (flat (tb T0 (notGone G hs k))) rfl (hown1.alloc _) ⟨W1.heap.size, 0, none⟩ 1 1 [.pointer (some ⟨T0 + e.1, 0, none⟩), .int .u8 e.2] rfl rfl hnew hone (by omega) h63 (by omega) hbase (W1.heap.size + 1) (by simp) ?_; intro g2 cap2 w1 ho1 hgr hat hlt2; have hHA := hadd w1 g2 cap2 ho1 hgr; have hv1 : w1.cell? ⟨w.heap.size, 0, none⟩ = some v := (hgr.cell_far _ (by simpa using hH1lt) (fun ee => by have := hown1.lt _ ee.symm; simp at this; omega)).trans (cell_keep hbC hlt1 hcv); have hv2 : w1.frozen? ⟨w.heap.size, 0, none⟩ = false := (hgr.frozen_far _ (by simpa using hH1lt) (fun ee => by have := hown1.lt _ ee.symm; simp at this; omega)).trans ((hbC.frozen (p := ⟨w.heap.size, 0, none⟩) hlt1).trans hcf)))
        go_roundw
        case rel => exact ⟨k + 1, by omega, by go_num, _, by rw [HN1.out]; exact hHA⟩
        case measure => simp [intOf]; omega
    · have hk0 : nh = k := by omega
      subst hk0
      rw [← hl] at hH
      rw [← HH0.out] at hH
      clear hlt hk hao hR3 hHv HH0
      have hSr := hS.keep (hH.below.mono (Nat.le_refl _))
      have b1 := hSr.wait
      have b2 := hSr.n1 qpos hq
      have b3 := hSr.front
      clear hSr
      have hLn := hH.lt
      have HH := hid hH
      clear hH
      go_wp2
      go_loopg [12, 13] n (fun gk o pp wr => ∃ (j : Nat) (h : List (Nat × Int)) (outs : List Nat) (v : Value) (pv : Nat), gk = n - j ∧ j ≤ n ∧ run G xi qpos (rq qpos).m rq h0 j = some (h, outs) ∧ pp = .pointer (some ⟨pv, 0, none⟩) ∧ L2 w wr w.heap.size T0 n Nd pv v o j h outs)
      case atStart =>
        refine ⟨0, h0, [], v, wr.heap.size, rfl, Nat.zero_le _, rfl, rfl, ?_⟩
        have hH := HH.out.keep ((Below.refl wr.heap.size wr).alloc (Nat.le_refl _) (.cells #[.pointer (some ⟨Nd 0, 0, none⟩)] 26))
        exact ⟨hH, by simp only [nxt, if_pos hn]; exact blk_alloc_new _ _, HH.out.lt, ⟨rfl, .inl ⟨rfl, rfl⟩⟩, fun _ => rfl⟩
      case round =>
        clear HH hLn b1 b2 b3
        obtain ⟨j, h, outs, v, pv, hgk, hj, hrun, rfl, hL⟩ := hrel
        have HG := hid hgk
        have HR := hid hrun
        have hlt := run_lt hh0 hrt j h outs hrun
        clear hgk hrun
        by_cases hjn : j < n
        · have cp : wr.cell? ⟨pv, 0, none⟩ = some (.pointer (some ⟨Nd j, 0, none⟩)) := by
            have := hL.pvb
            simp only [nxt, if_pos hjn] at this
            simp [World.cell?, this]
          have hSr := hS.keep (hL.held.below.mono (Nat.le_refl _))
          have heq := eql26 wr (Nd j) (Nd qpos) (hSr.isN hjn) (hSr.isN hq)
          by_cases hjq : j = qpos
          · rw [decide_eq_true (by rw [hjq])] at heq
            have hn2 := hSr.n2 qpos hq
            have hfit := fits_any (w.heap.size + 1) h.length (T0 + xi) w.heap.size (rq qpos).m v (tb T0 h) wr hL.held.cell hL.held.own (by omega) (fun e he => by
              obtain ⟨e0, he0, rfl⟩ := List.mem_map.1 he
              exact hSr.isT (hlt.1 e0 he0)) (hSr.isT (by rw [← hxi]; exact hrt qpos))
            rw [fits_tb] at hfit
            obtain ⟨qm, eqm⟩ : ∃ qm, qm = (rq qpos).m := ⟨_, rfl⟩
            have HRS : Hid (run G xi qpos (rq qpos).m rq h0 (j + 1) = if fitsL h xi qm = true then none else some (h, outs)) := hid (by rw [run, HR.out]; simp only; rw [if_pos hjq, eqm])
            rw [← eqm] at hfit hn2
            obtain ⟨t, ht⟩ : ∃ t, t = fitsL h xi qm := ⟨_, rfl⟩
            rw [← ht] at hfit HRS
            clear eqm ht hjq
            go_wp2_with fail
            refine hfit.mono ?_
            rintro e w' ⟨rfl, hb⟩
            have hL' := hL.keep hb
            clear hfit heq
            cases t with
            | true =>
              have HN : Hid (run G xi qpos (rq qpos).m rq h0 n = none) := hid (run_none (j := j + 1) (by simpa using HRS.out) n (by omega))
              have hbw := hL'.held.below
              clear hL hL' hSr cp hn2
              go_wp2
              go_ret
              exact ⟨_, rfl, by rw [HN.out]; rfl, hbw⟩
            | false =>
              have HN : Hid (run G xi qpos (rq qpos).m rq h0 (j + 1) = some (h, outs)) := hid (by simpa using HRS.out)
              have cp' := cell_keep hb (lt_of_cell cp) cp
              have n5 := cell_keep hb (lt_of_cell (hSr.n5 j hjn)) (hSr.n5 j hjn)
              obtain ⟨u, hu⟩ : ∃ u, nxt Nd n (j + 1) = .pointer u := by unfold nxt; split <;> exact ⟨_, rfl⟩
              have HX := hid hL'.next
              rw [hu] at n5 HX
              have lp := lt_of_cell cp'
              have ln := lt_of_cell n5
              clear hL hL' hSr cp hn2 hu
              go_wp2
              go_roundg (n - (j + 1))
              case measure => rw [HG.out]; omega
              case rel => exact ⟨j + 1, h, outs, v, w'.heap.size, rfl, by omega, HN.out, rfl, HX.out⟩
          · rw [decide_eq_false (fun e => hjq (hinj j qpos hjn hq e))] at heq
            obtain ⟨tj, etj⟩ : ∃ tj, tj = (rq j).t := ⟨_, rfl⟩
            obtain ⟨mj, emj⟩ : ∃ mj, mj = (rq j).m := ⟨_, rfl⟩
            have htj : tj < 8 := by rw [etj]; exact hrt j
            have n0 := hSr.n0 j hjn
            have n2 := hSr.n2 j hjn
            have n5 := hSr.n5 j hjn
            rw [← etj] at n0
            rw [← emj] at n2
            have hkeepA : ∀ W, Below wr.heap.size wr W → W.cell? ⟨pv, 0, none⟩ = some (.pointer (some ⟨Nd j, 0, none⟩)) ∧ W.cell? ⟨Nd j, 0, none⟩ = some (.pointer (some ⟨T0 + tj, 0, none⟩)) ∧ W.cell? ⟨Nd j, 2, none⟩ = some (.int .u8 mj) := fun W hB => ⟨cell_keep hB (lt_of_cell cp) cp, cell_keep hB (lt_of_cell n0) n0, cell_keep hB (lt_of_cell n2) n2⟩
            have hgoneA : ∀ W, Below wr.heap.size wr W → Calls Yba.prog 9 #[.pointer (some ⟨T0 + tj, 0, none⟩), .pointer (some ⟨gb, 0, none⟩)] W fun e w' => e = .returned (.bool (goneB G tj)) ∧ ∃ n, w' = W.drewN n := fun W hB => gone_any (T0 + tj) gb tj G W htj (hSr.keep hB).gbc ((hSr.keep hB).age tj htj)
            have hfitA : ∀ W, Below wr.heap.size wr W → Calls Yba.prog 16 #[.pointer (some ⟨T0 + tj, 0, none⟩), .int .u8 mj, .pointer (some ⟨w.heap.size, 0, none⟩)] W fun e w' => e = .returned (.bool (fitsL h tj mj)) ∧ Below wr.heap.size wr w' := fun W hB => by
              have hLW := hL.keep hB
              refine (fits_any (w.heap.size + 1) h.length (T0 + tj) w.heap.size mj v (tb T0 h) W hLW.held.cell hLW.held.own (by omega) (fun e he => ?_) ((hSr.keep hB).isT htj)).mono ?_
              · obtain ⟨e0, he0, rfl⟩ := List.mem_map.1 he
                exact (hSr.keep hB).isT (hlt.1 e0 he0)
              · rintro e w' ⟨rfl, hb⟩
                rw [fits_tb]
                exact ⟨rfl, hB.trans (hb.mono hB.size)⟩
            have HRS : Hid (run G xi qpos (rq qpos).m rq h0 (j + 1) = if (goneB G tj || !fitsL h tj mj) = true then some (h, outs) else some (struck tj h ++ [(tj, mj)], if blk tj mj xi (rq qpos).m = true then outs ++ [tj] else outs)) := hid (by rw [run, HR.out]; simp only; rw [if_neg hjq, ← etj, ← emj])
            obtain ⟨t1, et1⟩ : ∃ t1, t1 = goneB G tj := ⟨_, rfl⟩
            obtain ⟨t2, et2⟩ : ∃ t2, t2 = fitsL h tj mj := ⟨_, rfl⟩
            rw [← et1] at hgoneA HRS
            rw [← et2] at hfitA HRS
            obtain ⟨u, hu⟩ : ∃ u, nxt Nd n (j + 1) = .pointer u := by unfold nxt; split <;> exact ⟨_, rfl⟩
            have lp := lt_of_cell cp
            have ln := lt_of_cell n5
            have HU := hid hu
            have HE := hid (And.intro etj emj)
            clear et1 et2 etj emj hjq hu
            cases t1 with
            | true =>
              have HN : Hid (run G xi qpos (rq qpos).m rq h0 (j + 1) = some (h, outs)) := hid (by simpa using HRS.out)
              rw [HU.out] at n5
              have hq9 := fun nn => hgoneA (wr.drewN nn) (below_drewN (Below.refl _ _) nn)
              clear hSr hfitA hgoneA HRS
              go_wp2
              go_quiet ((go_at_call 9; exact Calls.quiet_of (hq9 _)))
              obtain ⟨W1, hW1⟩ : ∃ W1, W1 = wr.drewN nq := ⟨_, rfl⟩
              have hB1 : Below wr.heap.size wr W1 := by rw [hW1]; exact below_drewN (Below.refl _ _) nq
              rw [← hW1]
              have HX := hid (hL.keep hB1).next
              rw [HU.out] at HX
              have cp1 := (hkeepA W1 hB1).1
              have n51 := cell_keep hB1 ln n5
              have lp1 := lt_of_cell cp1
              have ln1 := lt_of_cell n51
              clear hW1 hB1 cp n5 n0 n2 lp ln hkeepA hL heq
              go_wp2
              go_roundg (n - (j + 1))
              case measure => rw [HG.out]; omega
              case rel => exact ⟨j + 1, h, outs, v, W1.heap.size, rfl, by omega, HN.out, rfl, HX.out⟩
            | false =>
              have hgoneB : ∀ W, Below wr.heap.size wr W → Calls Yba.prog 9 #[.pointer (some ⟨T0 + tj, 0, none⟩), .pointer (some ⟨gb, 0, none⟩)] W fun e w' => e = .returned (.bool false) ∧ Below wr.heap.size wr w' := fun W hB => (hgoneA W hB).mono fun e w' hh => ⟨hh.1, by obtain ⟨n, rfl⟩ := hh.2; exact below_drewN hB n⟩
              have HL := hid hL
              have H9 := hid hgoneB
              have H16 := hid hfitA
              have HLT := hid hlt
              clear hL hSr hgoneA hkeepA hgoneB hfitA hlt
              go_wp2_with fail
              refine letRegion21 wr w.heap.size pv (Nd j) (T0 + tj) gb mj t2 cp n0 n2 H9.out H16.out _ _ _ _ _ _ _ _ _ _ _ _ _ _ _ _ _ _ _ _ _ _ _ _ _ _ _ _ _ _ _ _ _ _ _ _ _ _ _ _ _ _ _ _ _ _ _ _ _ _ _ _ _ _ _ _ _ _ _ _ _ _ _ _ _ _ _ _ _ _ _ _ _ _ _ _ _ _ _ _ _ _ _ _ _ _ _ _ _ _ _ _ _ _ _ _ _ _ _ _ _ _ _ _ _ _ _ _ _ _ _ _ _ _ _ _ _ _ _ _ _ _ ?_
              intro z103 z104 z105 z106 z107 z108 z109 z110 z111 z112 z113 z114 z115 z116 z117 z118 z119 z120 z121 W1 hB1
              clear H9 H16 cp n0 n2 heq lp
              have hL1 := HL.out.keep hB1
              have n51 := cell_keep hB1 ln n5
              clear HL n5 ln hB1
              cases t2 with
              | false =>
                have HN : Hid (run G xi qpos (rq qpos).m rq h0 (j + 1) = some (h, outs)) := hid (by simpa using HRS.out)
                rw [HU.out] at n51
                have HX := hid hL1.next
                rw [HU.out] at HX
                have cp1 := hL1.cp hjn
                have lp1 := lt_of_cell cp1
                have ln1 := lt_of_cell n51
                clear hL1
                go_wp2
                go_roundg (n - (j + 1))
                case measure => rw [HG.out]; omega
                case rel => exact ⟨j + 1, h, outs, v, W1.heap.size, rfl, by omega, HN.out, rfl, HX.out⟩
              | true =>
                have HN : Hid (run G xi qpos (rq qpos).m rq h0 (j + 1) = some (struck tj h ++ [(tj, mj)], if blk tj mj xi (rq qpos).m = true then outs ++ [tj] else outs)) := hid (by simpa using HRS.out)
                clear n51 HRS
                have hdel := hL1.delete hS hjn tj htj HE.out.1 (by have := HLT.out.2.2.1; omega) HLT.out.1
                have hc1 := hL1.held.cell
                go_wp2_with fail
                refine hdel.mono ?_
                rintro e w2 ⟨v', rfl, hL2, hc2, hf2, hs2⟩
                obtain ⟨ao2, cap2, ev2, -⟩ := own_form hL2.held.own
                obtain ⟨len2, elen2⟩ : ∃ len2, len2 = (struck tj h).length := ⟨_, rfl⟩
                rw [← elen2] at ev2
                subst ev2
                have HL2 := hid hL2
                clear hdel hc1 hL1 hL2 elen2
                go_wp2_with fail
                obtain ⟨v', ev'⟩ : ∃ v', v' = Value.slice ao2 len2 cap2 := ⟨_, rfl⟩
                rw [← ev'] at HL2 ⊢
                obtain ⟨W2, hW2⟩ : ∃ W2, W2 = w2.setCell ⟨w.heap.size, 0, none⟩ v' := ⟨_, rfl⟩
                rw [← hW2] at HL2 ⊢
                clear hW2 hc2 hf2 hs2 ev'
                obtain ⟨hst, ehst⟩ : ∃ hst, hst = struck tj h := ⟨_, rfl⟩
                rw [← ehst] at HL2 HN
                have hstl : hst.length ≤ 65536 := by
                  have := List.length_filter_le (fun e : Nat × Int => !decide (e.1 = tj)) h
                  have := HLT.out.2.2.1
                  rw [ehst]; unfold struck; omega
                clear ehst
                have hS2 := hS.keep (HL2.out.held.below.mono (Nat.le_refl _))
                refine letRegion15 W2 w.heap.size pv (Nd j) (T0 + tj) mj v' hst.length (flat (tb T0 hst)) HL2.out.held.own (by omega) HL2.out.held.cell HL2.out.held.frozen (HL2.out.cp hjn) (by rw [HE.out.1]; exact hS2.n0 j hjn) (by rw [HE.out.2]; exact hS2.n2 j hjn) _ _ _ _ _ _ _ _ _ _ _ _ _ _ _ _ _ _ _ _ _ _ _ _ _ _ _ _ _ _ _ _ _ _ _ _ _ _ _ _ _ _ _ _ _ _ _ _ _ _ _ _ _ _ _ _ _ _ _ _ _ _ _ _ _ _ _ _ _ _ _ _ _ _ _ _ _ _ _ _ _ _ _ _ _ _ _ _ _ _ _ _ _ _ _ _ _ _ _ _ _ _ _ _ _ _ _ _ _ _ _ _ _ _ _ _ _ _ _ _ _ _ _ ?_
                intro y57 y58 y59 y60 y61 y62 y63 y64 y65 y66 y67 y68 w3 g3 cap3 hown3 hgrow3
                have HL3 := hid (HL2.out.add (((Below.refl _ _).alloc (Nat.le_refl _) _).drew) (tj, mj) hown3 hgrow3)
                obtain ⟨v3, ev3⟩ : ∃ v3, v3 = Value.slice (some ⟨g3, 0, none⟩) (hst.length + 1) cap3 := ⟨_, rfl⟩
                rw [← ev3] at HL3 ⊢
                obtain ⟨W3, hW3⟩ : ∃ W3, W3 = w3.setCell ⟨w.heap.size, 0, none⟩ v3 := ⟨_, rfl⟩
                rw [← hW3] at HL3 ⊢
                obtain ⟨hst3, ehst3⟩ : ∃ hst3, hst3 = hst ++ [(tj, mj)] := ⟨_, rfl⟩
                rw [← ehst3] at HL3 HN
                clear hW3 ev3 hown3 hgrow3 HL2 hS2 ehst3 hstl
                have hS3 := hS.keep (HL3.out.held.below.mono (Nat.le_refl _))
                obtain ⟨qm, eqm⟩ : ∃ qm, qm = (rq qpos).m := ⟨_, rfl⟩
                have h19 : ∀ W, Below W3.heap.size W3 W → Calls Yba.prog 19 #[.agg #[.pointer (some ⟨T0 + tj, 0, none⟩), .int .u8 mj], .pointer (some ⟨T0 + xi, 0, none⟩), .int .u8 qm] W fun e w' => e = .returned (.bool (blk tj mj xi qm)) ∧ Below W3.heap.size W3 w' := fun W hB => (blocks_any (T0 + tj) (T0 + xi) mj qm W ((hS3.keep hB).isT htj) ((hS3.keep hB).isT (by rw [← hxi]; exact hrt qpos))).mono fun e w' hh => by
                  rw [blk_tb] at hh
                  refine ⟨hh.1, ?_⟩
                  rw [hh.2]
                  exact hB.alloc hB.size _
                rw [← eqm] at HN
                obtain ⟨b, eb⟩ : ∃ b, b = blk tj mj xi qm := ⟨_, rfl⟩
                rw [← eb] at HN h19
                have x3 := HL3.out.cp hjn
                have x4 : W3.cell? ⟨Nd j, 0, none⟩ = some (.pointer (some ⟨T0 + tj, 0, none⟩)) := by rw [HE.out.1]; exact hS3.n0 j hjn
                have x5 : W3.cell? ⟨Nd j, 2, none⟩ = some (.int .u8 mj) := by rw [HE.out.2]; exact hS3.n2 j hjn
                have x6 : W3.cell? ⟨Nd qpos, 2, none⟩ = some (.int .u8 qm) := by rw [eqm]; exact hS3.n2 qpos hq
                have H19 := hid h19
                have EQM := hid eqm
                clear h19 eb eqm hS3
                go_wp2_with fail
                refine letRegion16 W3 pv (Nd j) (T0 + tj) (T0 + xi) (Nd qpos) mj qm b x3 x4 x5 x6 H19.out _ _ _ _ _ _ _ _ _ _ _ _ _ _ _ _ _ _ _ _ _ _ _ _ _ _ _ _ _ _ _ _ _ _ _ _ _ _ _ _ _ _ _ _ _ _ _ _ _ _ _ _ _ _ _ _ _ _ _ _ _ _ _ _ _ _ _ _ _ _ _ _ _ _ _ _ _ _ _ _ _ _ _ _ _ _ _ _ _ _ _ _ _ _ _ _ _ _ _ _ _ _ _ _ _ _ _ _ _ _ _ _ _ _ _ _ _ _ _ _ _ _ ?_
                intro x69 x70 x71 x72 x73 x74 x75 x76 x77 x78 x79 x80 x81 x82 W4 hB4
                have HL4 := hid (HL3.out.keep hB4)
                have hS4 := hS.keep (HL4.out.held.below.mono (Nat.le_refl _))
                clear H19 x3 x4 x5 x6 HL3 hB4
                have cp4 := HL4.out.cp hjn
                have x44 : W4.cell? ⟨Nd j, 0, none⟩ = some (.pointer (some ⟨T0 + tj, 0, none⟩)) := by rw [HE.out.1]; exact hS4.n0 j hjn
                have n54 := hS4.n5 j hjn
                rw [HU.out] at n54
                have lp4 := lt_of_cell cp4
                have ln4 := lt_of_cell n54
                clear hS4
                cases b with
                | false =>
                  have HN : Hid (run G xi qpos (rq qpos).m rq h0 (j + 1) = some (hst3, outs)) := hid (by simpa [EQM.out] using HN.out)
                  have HX := hid HL4.out.next
                  rw [HU.out] at HX
                  clear HL4
                  go_wp2
                  go_roundg (n - (j + 1))
                  case measure => rw [HG.out]; omega
                  case rel => exact ⟨j + 1, hst3, outs, v3, W4.heap.size, rfl, by omega, HN.out, rfl, HX.out⟩
                | true =>
                  have HN2 : Hid (run G xi qpos (rq qpos).m rq h0 (j + 1) = some (hst3, outs ++ [tj])) := hid (by simpa [EQM.out] using HN.out)
                  clear HN
                  obtain ⟨i1, hi1, hy0, hy1, hy2⟩ := info_parts info47
                  have hout := HL4.out.out
                  have hLl := HL4.out.held.lt
                  have hol := HLT.out.2.2.2
                  have hbC : Below W4.heap.size W4 (W4.alloc (.cells #[.pointer (some ⟨T0 + tj, 0, none⟩)] 47)) := (Below.refl _ _).alloc (Nat.le_refl _) _
                  have hnew : ∀ (j : Nat) (u : Value), [Value.pointer (some ⟨T0 + tj, 0, none⟩)][j]? = some u → (W4.alloc (.cells #[.pointer (some ⟨T0 + tj, 0, none⟩)] 47)).cell? ((⟨W4.heap.size, 0, none⟩ : Addr).add j) = some u := World.news_of_block (blk_alloc_new _ _)
                  have hone : ∀ u ∈ [Value.pointer (some ⟨T0 + tj, 0, none⟩)], u.oneCell' = true := by intro u hu; simp at hu; subst hu; rfl
                  have h63 : outs.length + 1 ≤ maxLen := by unfold maxLen; omega
                  have hbase : w.heap.size + 1 ≤ (W4.alloc (.cells #[.pointer (some ⟨T0 + tj, 0, none⟩)] 47)).heap.size := by rw [nblk_alloc]; omega
                  have hpush : ∀ (g5 cap5 : Nat) (w5 : World), w5.ownsRow (w.heap.size + 1) 47 1 (.slice (some ⟨g5, 0, none⟩) (outs.length + 1) cap5) (outs.length + 1) ((outs.map fun t => Value.pointer (some ⟨T0 + t, 0, none⟩)) ++ [.pointer (some ⟨T0 + tj, 0, none⟩)]) → (W4.alloc (.cells #[.pointer (some ⟨T0 + tj, 0, none⟩)] 47)).grownBy w5 u12.ownBlock → L2 w (w5.alloc (.cells #[.pointer u] 26)) w.heap.size T0 n Nd w5.heap.size v3 (.slice (some ⟨g5, 0, none⟩) (outs.length + 1) cap5) (j + 1) hst3 (outs ++ [tj]) ∧ w5.cell? ⟨pv, 0, none⟩ = some (.pointer (some ⟨Nd j, 0, none⟩)) ∧ w5.cell? ⟨Nd j, 5, none⟩ = some (.pointer u) := fun g5 cap5 w5 ho hg => by
                    have hp := HL4.out.push hbC tj ho hg
                    have hnx := hp.next
                    rw [HU.out] at hnx
                    refine ⟨hnx, hp.cp hjn, ?_⟩
                    rw [← HU.out]
                    exact (hS.keep (hp.held.below.mono (Nat.le_refl _))).n5 j hjn
                  have HPU := hid hpush
                  have HOU := hid (hout.alloc (.cells #[.pointer (some ⟨T0 + tj, 0, none⟩)] 47))
                  clear hpush hout
                  go_wp2_with ((at_builtin; refine wpList_append_lies _ rfl (.tmp 84) (.tmp 89) 29 rfl (w.heap.size + 1) 47 i1 (.pointer none) 1 8 Yba.underlying29 hi1 hy0 hy1 hy2 rfl (by omega) u12 outs.length (outs.map fun t => Value.pointer (some ⟨T0 + t, 0, none⟩)) rfl HOU.out ⟨W4.heap.size, 0, none⟩ 1 1 [.pointer (some ⟨T0 + tj, 0, none⟩)] rfl rfl hnew hone (by omega) h63 (by omega) hbase (W4.heap.size + 1) (by simp) ?_; intro g5 cap5 w5 ho5 hgr5 hat5 hlt5; have HX := hid (HPU.out g5 cap5 w5 ho5 hgr5).1; have cp5 := (HPU.out g5 cap5 w5 ho5 hgr5).2.1; have n55 := (HPU.out g5 cap5 w5 ho5 hgr5).2.2; have lp5 := lt_of_cell cp5; have ln5 := lt_of_cell n55; clear ho5 hgr5 hat5 hlt5))
                  go_roundg (n - (j + 1))
                  case measure => rw [HG.out]; omega
                  case rel => exact ⟨j + 1, hst3, outs ++ [tj], v3, w5.heap.size, rfl, by omega, HN2.out, rfl, HX.out⟩
        · have hjn2 : n = j := by omega
          subst hjn2
          have cp : wr.cell? ⟨pv, 0, none⟩ = some (.pointer none) := by
            have := hL.pvb
            simp only [nxt, Nat.lt_irrefl, if_false] at this
            simp [World.cell?, this]
          have HL := hid hL
          clear hL
          go_wp2
          go_ret
          exact ⟨_, rfl, by rw [HR.out]; exact ⟨HL.out.out, HL.out.nil⟩, HL.out.held.below⟩

end Go.Proofs.Ybulkecuo.B
