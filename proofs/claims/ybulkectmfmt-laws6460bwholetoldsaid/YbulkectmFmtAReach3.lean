import Derived.Test.YbulkectmFmtAReachP
import Derived.Test.YbulkectmFmtAProp
namespace Go.Proofs.YbulkectmFmt.A
set_option linter.unusedVariables false
set_option linter.unusedSimpArgs false
open Go.RowKit Go.Deep

theorem wpList_append_at {wr : World} {ops : Array Oper} {rest : List Oper} {o : Oper} {a : Act} {Q : Exit → Act → World → Prop} (hgd : o.guard = none) (s x : Operand) (t : TypeId)
    (ho : o.op = .call { callee := .builtin .append, args := #[s, x], argTypes := #[t, t] })
    (e : TypeId) (z : Value) (size bytes : Nat) (ht : Ybaf.prog.underlying t = some (.slice e)) (hinf : (Ybaf.prog.info? e).map (fun i => (i.zero, i.size, i.bytes)) = some (some z, size, bytes)) (hzs : z.cells.size = size) (hsz : 0 < size) (hby : bytes ≤ 1000)
    (v : Value) (n : Nat) (xs : List Value) (hs : a.eval s = v) (base : Nat) (hown : wr.ownsRow base e size v n xs) (hbase : base ≤ wr.heap.size)
    (us : List Value) (hl : us.length = size) (h1 : ∀ u ∈ us, u.oneCell' = true) (H : Nat) (hH : wr.heap.size = H) (hx : a.eval x = .slice (some ⟨H, 0, none⟩) 1 1) (hn : n ≤ 10000000)
    (h : ∀ g cap w1, w1.ownsRow base e size (.slice (some ⟨g, 0, none⟩) (n + 1) cap) (n + 1) (xs ++ us) → wr.grownBy w1 v.ownBlock → (v.ownBlock = some g ∨ g = wr.heap.size + 1) → wpList Ybaf.prog ops Q rest (a.put o.dst (.slice (some ⟨g, 0, none⟩) (n + 1) cap)) w1) :
    wpList Ybaf.prog ops Q (o :: rest) a (wr.alloc (.cells us.toArray e)) := by
  subst hH
  exact wpList_append_one hgd s x t ho e z size bytes ht hinf hzs hsz hby v n xs hs base hown hbase us hl h1 hx hn h

/-- A search in memory. -/
structure Rst (w wr : World) (RB n : Nat) (s : RS) (v : Value) : Prop where
  below : Below w.heap.size w wr
  rb : wr.rowIs RB 4 n (fun i => .bool (s.R i))
  own : wr.ownsRow (RB + 1) 3 1 v s.q.length (iv s.q)
  lo : w.heap.size ≤ RB

section
variable {w wr : World} {RB n : Nat} {s : RS} {v : Value}
theorem Rst.keep (h : Rst w wr RB n s v) {wx : World} (hb : Below wr.heap.size wr wx) : Rst w wx RB n s v :=
  ⟨below_up h.below hb, h.rb.of_block (hb.block _ h.rb.lt), own_keep hb h.own, h.lo⟩
theorem Rst.shape (h : Rst w wr RB n s v) : ∃ a c, v = .slice a s.q.length c := by
  rcases h.own.2 with ⟨rfl, e⟩ | ⟨g, cap, cur, rfl, _⟩
  · exact ⟨none, 0, by rw [e]⟩
  · exact ⟨_, _, rfl⟩
theorem Rst.set (h : Rst w wr RB n s v) (x : Nat) : Rst w (wr.setCell ⟨RB, x, none⟩ (.bool true)) RB n ⟨upd s.R x true, s.q⟩ v := by
  refine ⟨h.below.setCell (by simpa using h.lo) _, (h.rb.set x _).congr fun i _ => ?_, ownsRow_setCell_below h.own (by simp) _, h.lo⟩
  by_cases e : i = x
  · subst e; simp [upd]
  · simp [upd, e]
theorem Rst.push (h : Rst w wr RB n s v) (x : Nat) {w1 : World} {g cap : Nat} (ho : w1.ownsRow (RB + 1) 3 1 (.slice (some ⟨g, 0, none⟩) (s.q.length + 1) cap) (s.q.length + 1) (iv s.q ++ [.int .i64 (x : Int)])) (hgr : wr.grownBy w1 v.ownBlock) :
    Rst w w1 RB n ⟨s.R, s.q ++ [x]⟩ (.slice (some ⟨g, 0, none⟩) (s.q.length + 1) cap) := by
  have hlt := h.rb.lt
  refine ⟨below_grown' h.below h.own (by have := h.lo; omega) hgr, h.rb.of_block (hgr.block RB hlt (fun e => by have := (h.own.lt RB e.symm).1; omega)), ?_, h.lo⟩
  show w1.ownsRow (RB + 1) 3 1 _ (s.q ++ [x]).length (iv (s.q ++ [x]))
  rw [iv_append, List.length_append]
  exact ho
end

set_option maxRecDepth 1000000 in
set_option maxHeartbeats 8000000 in
/-- 'for _, e := range g.out[queue[i]] { .. }'. -/
theorem reachLoop3 (w wr : World) (M : GM) (D : GD) (hD : D.Ok) (hG : Gr w M D) (fp SD RK : Nat) (seed : Nat → Bool) (rank : Nat → Int) (hF : Fir w fp SD RK D.n seed rank) (RB u : Nat) (x0 : Nat) (s0 : RS) (hI : RInv D (okE D seed rank) x0 s0) (hu : s0.R u = true) (v0 : Value) (h0 : Rst w wr RB D.n s0 v0)
    (a : Option Addr) (c : Nat) (l : List Nat) (hl : ∀ e ∈ l, e < D.m ∧ D.src e = u) (hll : l.length ≤ 2048) (hrow : ∀ wx, Below w.heap.size w wx → ∀ j (h : j < l.length), ∃ b o, a = some ⟨b, o, none⟩ ∧ wx.cell? ⟨b, o + j, none⟩ = some (.int .i64 ((l[j] : Nat) : Int)))
    (Q : Exit → Act → World → Prop) (s2 s3 s4 s5 s6 s9 s10 s11 s12 s13 s14 s15 s16 s17 s18 s19 s20 s21 s22 s23 s24 s25 s26 s27 s28 s29 s30 s31 s32 s33 s34 s35 s36 s37 s38 s39 s40 s41 s42 s43 s44 s45 s46 s47 s48 s49 s50 s51 s52 s53 s54 s55 s56 s57 s58 s59 s60 s64 s65 s66 s67 s68 s69 s70 s71 s72 s73 s74 s75 s76 s77 s78 s79 s80 s81 s82 s83 s84 s85 s86 s87 s88 s89 s90 s91 s92 s93 : Value)
    (hQ : ∀ (v13 v14 v63 v64 v65 v66 v67 v68 v69 v70 v71 v72 v73 v74 v75 v76 v77 v78 v79 v80 v81 v82 v83 v84 v85 v86 v87 v88 v89 v90 v91 v92 : Value) (w1 : World) (v : Value), Rst w w1 RB D.n (l.foldl (stepR D (okE D seed rank)) s0) v → Q .normal ⟨#[.pointer (some ⟨M.gp, 0, none⟩), .pointer (some ⟨fp, 0, none⟩), s2, s3, s4, s5, s6, .slice (some ⟨RB, 0, none⟩) D.n D.n, v, s9, s10, s11, s12, v13, v14, s15, s16, s17, s18, s19, s20, s21, s22, s23, s24, s25, s26, s27, s28, s29, s30, s31, s32, s33, s34, s35, s36, s37, s38, s39, s40, s41, s42, s43, s44, s45, s46, s47, s48, s49, s50, s51, s52, s53, s54, s55, s56, s57, s58, s59, s60, .slice a l.length c, .int .i64 (l.length : Int), v63, v64, v65, v66, v67, v68, v69, v70, v71, v72, v73, v74, v75, v76, v77, v78, v79, v80, v81, v82, v83, v84, v85, v86, v87, v88, v89, v90, v91, v92, s93], []⟩ w1) :
    Code.wp Ybaf.prog ((Ybaf.f13.body.bind (findLoop 14)).getD .skip) (Exit.inBlock 4 Q) ⟨#[.pointer (some ⟨M.gp, 0, none⟩), .pointer (some ⟨fp, 0, none⟩), s2, s3, s4, s5, s6, .slice (some ⟨RB, 0, none⟩) D.n D.n, v0, s9, s10, s11, s12, s13, s14, s15, s16, s17, s18, s19, s20, s21, s22, s23, s24, s25, s26, s27, s28, s29, s30, s31, s32, s33, s34, s35, s36, s37, s38, s39, s40, s41, s42, s43, s44, s45, s46, s47, s48, s49, s50, s51, s52, s53, s54, s55, s56, s57, s58, s59, s60, .slice a l.length c, .int .i64 (l.length : Int), .int .i64 0, s64, s65, s66, s67, s68, s69, s70, s71, s72, s73, s74, s75, s76, s77, s78, s79, s80, s81, s82, s83, s84, s85, s86, s87, s88, s89, s90, s91, s92, s93], []⟩ wr := by
  conv => arg 2; whnf
  conv => arg 4; dsimp only
  go_loopw [8, 63] (fun v i wr => ∃ (j : Nat), j ≤ l.length ∧ i = .int .i64 j ∧ Rst w wr RB D.n ((l.take j).foldl (stepR D (okE D seed rank)) s0) v) (fun _ i _ => l.length - (intOf i).toNat)
  case atStart => exact ⟨0, Nat.zero_le _, rfl, h0⟩
  case round =>
    clear h0
    obtain ⟨j, hj, rfl, hP⟩ := hrel
    by_cases hlt : j < l.length
    · have hBw := hP.below
      obtain ⟨b, o, rfl, c0⟩ := hrow wr hBw j hlt
      obtain ⟨e, he⟩ : ∃ e, e = l[j] := ⟨_, rfl⟩
      have hem : e < D.m := by rw [he]; exact (hl _ (List.getElem_mem hlt)).1
      rw [← he] at c0
      have hfold : (l.take (j + 1)).foldl (stepR D (okE D seed rank)) s0 = stepR D (okE D seed rank) ((l.take j).foldl (stepR D (okE D seed rank)) s0) e := by
        rw [List.take_succ_eq_append_getElem hlt, List.foldl_append, ← he]
        rfl
      have hIs : RInv D (okE D seed rank) x0 ((l.take j).foldl (stepR D (okE D seed rank)) s0) := RInv.foldR hD _ (fun x hx => hl x (List.mem_of_mem_take hx)) _ hI hu
      obtain ⟨s, hs⟩ : ∃ s, s = (l.take j).foldl (stepR D (okE D seed rank)) s0 := ⟨_, rfl⟩
      rw [← hs] at hP hfold hIs
      have hxn := hD.dl e hem
      have g5 := cell_old hBw hG.c5
      have x1 := cell_old hBw (hG.ds e hem)
      have hIlen := hIs.len
      have hn3 := hD.hn
      have HAC := hid (fun W (hW : Below w.heap.size w W) => accepted_any W M D hD (hG.keep hW) fp SD RK seed rank (hF.keep hW) e hem)
      obtain ⟨x, hx⟩ : ∃ x, x = D.dst e := ⟨_, rfl⟩
      have hed : stepR D (okE D seed rank) s e = if (!s.R x && okE D seed rank e) = true then ⟨upd s.R x true, s.q ++ [x]⟩ else s := by rw [hx]; rfl
      rw [← hx] at x1 hxn
      have r1 := hP.rb.cell hxn
      have r2 := hP.rb.frozen x
      have HFO := hid hfold
      have HED := hid hed
      have HP := hid hP
      have HBw := hid hBw
      obtain ⟨gp, hgp⟩ : ∃ gp, gp = M.gp := ⟨_, rfl⟩
      obtain ⟨DB, hDB⟩ : ∃ gp, gp = M.DB := ⟨_, rfl⟩
      obtain ⟨m, hm⟩ : ∃ gp, gp = D.m := ⟨_, rfl⟩
      obtain ⟨Rx, hRx⟩ : ∃ gp, gp = s.R x := ⟨_, rfl⟩
      obtain ⟨ok, hok⟩ : ∃ gp, gp = okE D seed rank e := ⟨_, rfl⟩
      rw [← hgp, ← hDB, ← hm] at g5
      rw [← hDB] at x1
      rw [← hRx] at r1 HED
      rw [← hgp, ← hok] at HAC
      rw [← hok] at HED
      rw [← hgp] at hQ ⊢
      rw [← hm] at hem
      clear hgp hDB hm hed hfold hIs hBw hG hs hl he hx hI hD hRx hok hF hu
      have i0 : (0 : Int) ≤ (j : Int) := by omega
      have i1 : (j : Int) < (l.length : Int) := by omega
      have e0 : (0 : Int) ≤ (e : Int) := by omega
      have e1 : (e : Int) < (m : Int) := by omega
      have y0 : (0 : Int) ≤ (x : Int) := by omega
      have y1 : (x : Int) < (D.n : Int) := by omega
      cases Rx with
      | true =>
        clear HAC hP
        go_wp2
        go_roundw
        case rel =>
          refine ⟨j + 1, by omega, by go_num, ?_⟩
          rw [HFO.out, HED.out, if_neg (by simp)]
          exact HP.out
        case measure => simp [intOf]; omega
      | false =>
        cases ok with
        | false =>
          clear hP
          go_wp2_with fail
          refine (HAC.out wr HBw.out).mono ?_
          rintro r w' ⟨rfl, d, rfl⟩
          have HP2 := hid (HP.out.keep (wx := wr.drewN d) (below_drewN (Below.refl _ _) d))
          clear HAC
          go_wp2
          go_roundw
          case rel =>
            refine ⟨j + 1, by omega, by go_num, ?_⟩
            rw [HFO.out, HED.out, if_neg (by simp)]
            exact HP2.out
          case measure => simp [intOf]; omega
        | true =>
          obtain ⟨W1, hW1⟩ : ∃ W1, W1 = wr.setCell ⟨RB, x, none⟩ (.bool true) := ⟨_, rfl⟩
          have hP1 := hP.set x
          rw [← hW1] at hP1
          obtain ⟨va, vc, rfl⟩ := hP.shape
          have hq3 : s.q.length ≤ 1000 := by omega
          have HW1 := hid hW1
          have hrb := hP1.rb.lt
          have HP1 := hid hP1
          clear hP hW1 hP1
          go_wp2_with fail
          refine (HAC.out wr HBw.out).mono ?_
          rintro r w' ⟨rfl, d, rfl⟩
          clear HAC
          have hP2 : Rst w ((wr.drewN d).setCell ⟨RB, x, none⟩ (.bool true)) RB D.n ⟨upd s.R x true, s.q⟩ (.slice va s.q.length vc) := (HP.out.keep (wx := wr.drewN d) (below_drewN (Below.refl _ _) d)).set x
          have hown := hP2.own
          have hbs : RB + 1 ≤ ((wr.drewN d).setCell ⟨RB, x, none⟩ (.bool true)).heap.size := hP2.rb.lt
          have hHs : ((wr.drewN d).setCell ⟨RB, x, none⟩ (.bool true)).heap.size = wr.heap.size := by rw [nblk_setCell]; rfl
          have HHS := hid hHs
          have HP2 := hid hP2
          clear hP2 HP1 HW1 hHs
          go_wp2_with ((at_builtin; refine wpList_append_at rfl (.tmp 88) (.tmp 90) 27 rfl 3 (.int .i64 0) 1 8 Ybaf.underlying27 info3 rfl (by omega) (by omega) _ s.q.length (iv s.q) rfl (RB + 1) hown hbs [.int .i64 (x : Int)] rfl (by simp [Value.oneCell']) wr.heap.size HHS.out rfl (by omega) ?_; intro g cap w1 ho1 hgr hat))
          have HP3 := hid (HP2.out.push x ho1 hgr)
          clear HP2 ho1 hgr hat hown hbs
          go_roundw
          case rel =>
            refine ⟨j + 1, by omega, by go_num, ?_⟩
            rw [HFO.out, HED.out, if_pos (by simp)]
            exact HP3.out
          case measure => simp [intOf]; omega
    · have e : j = l.length := by omega
      subst e
      rw [List.take_length] at hP
      go_wp2
      first | exact hP | exact hQ _ _ _ _ _ _ _ _ _ _ _ _ _ _ _ _ _ _ _ _ _ _ _ _ _ _ _ _ _ _ _ _ wr _ hP

end Go.Proofs.YbulkectmFmt.A
