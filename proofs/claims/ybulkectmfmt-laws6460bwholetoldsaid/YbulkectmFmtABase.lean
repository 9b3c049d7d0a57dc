import Derived.Test.YbulkectmFmtCards
import Derived.WalkKit
import Derived.WalkSpells
import Derived.WalkLawsBesides
import Derived.Deep.OwnRows
import Derived.Deep.QuietTactic
import Derived.BigQuiet
import Derived.Deep.AppendLies
import Derived.Deep.LoopGhost
import Derived.Laws.BytesArg
namespace Go.Proofs.YbulkectmFmt.A
open Go.RowKit Go.Deep

def P (t : Nat) : Value := .pointer (some ⟨t, 0, none⟩)
theorem hid {p : Prop} (h : p) : Hid p := h
theorem ret_bool {a b : Bool} (h : a = b) : Ending.returned (.bool a) = .returned (.bool b) := by rw [h]
theorem ret_str {a b : ByteArray} (h : a = b) : Ending.returned (.string a) = .returned (.string b) := by rw [h]

theorem lt_of_cell {w : World} {b o : Nat} {v : Value} (h : w.cell? ⟨b, o, none⟩ = some v) : b < w.heap.size := by
  rcases Nat.lt_or_ge b w.heap.size with h1 | h1
  · exact h1
  · simp [World.cell?, Array.getElem?_eq_none h1] at h
theorem cell_keep {B : Nat} {w w' : World} (hb : Below B w w') {b o : Nat} {v : Value} (hB : b < B) (h : w.cell? ⟨b, o, none⟩ = some v) : w'.cell? ⟨b, o, none⟩ = some v :=
  (hb.cell (p := ⟨b, o, none⟩) hB).trans h
/-- A cell of an old world is as it was. -/
theorem cell_old {w w' : World} (hb : Below w.heap.size w w') {b o : Nat} {v : Value} (h : w.cell? ⟨b, o, none⟩ = some v) : w'.cell? ⟨b, o, none⟩ = some v := cell_keep hb (lt_of_cell h) h
theorem own_keep {w w' : World} (hb : Below w.heap.size w w') {base : Nat} {e : TypeId} {size n : Nat} {v : Value} {xs : List Value} (h : w.ownsRow base e size v n xs) : w'.ownsRow base e size v n xs :=
  h.kept (row := none) ⟨hb.os, hb.tape, hb.output, hb.size, fun k hk _ => hb.block k hk⟩ (by cases v.ownBlock <;> simp)
theorem below_drewN {B : Nat} {w w' : World} (h : Below B w w') (n : Nat) : Below B w (w'.drewN n) := ⟨h.os, h.tape, h.output, h.size, h.block⟩
/-- What grows by an append that is the call's own stands below. -/
theorem below_grown {B : Nat} {w wr w1 : World} {row : Option Nat} (h : Below B w wr) (hB : B ≤ wr.heap.size) (hg : wr.grownBy w1 row) (hr : ∀ k, row = some k → B ≤ k) : Below B w w1 :=
  ⟨hg.os.trans h.os, hg.tape.trans h.tape, hg.output.trans h.output, Nat.le_trans h.size hg.size, fun k hk => (hg.block k (by omega) (fun e => by have := hr k e.symm; omega)).trans (h.block k hk)⟩
theorem below_up {w wr w1 : World} (h : Below w.heap.size w wr) (h1 : Below wr.heap.size wr w1) : Below w.heap.size w w1 := h.trans (h1.mono h.size)

def begins (n : Nat) : Code → Bool
  | .region k _ _ => k == n
  | .seq a _ => begins n a
  | .block _ c => begins n c
  | .scope c => begins n c
  | _ => false
/-- The loop that begins with the region of that number. -/
def findLoop (n : Nat) : Code → Option Code
  | .seq a b => match findLoop n a with
    | some c => some c
    | none => findLoop n b
  | .block _ c => findLoop n c
  | .loop c => if begins n c = true then some (.loop c) else findLoop n c
  | .scope c => findLoop n c
  | .cond _ a b => match findLoop n a with
    | some c => some c
    | none => findLoop n b
  | _ => none
/-- The region of that number in a function's text. -/
def findRegion (n : Nat) : Code → Option Code
  | .region k ops b => if k = n then some (.region k ops b) else none
  | .seq a b => match findRegion n a with
    | some c => some c
    | none => findRegion n b
  | .block _ c => findRegion n c
  | .loop c => findRegion n c
  | .scope c => findRegion n c
  | .cond _ a b => match findRegion n a with
    | some c => some c
    | none => findRegion n b
  | _ => none

/-! ### The ids -/
/-- The decimal digits, the last first. -/
def digF : Nat → Nat → List Nat
  | 0, k => [k % 10]
  | f + 1, k => if k < 10 then [k % 10] else (k % 10) :: digF f (k / 10)
def dig (k : Nat) : List Nat := digF k k
theorem digF_fuel : ∀ (f g k : Nat), k ≤ f → k ≤ g → digF f k = digF g k
  | 0, 0, k, _, _ => rfl
  | 0, g + 1, k, h, _ => by
    show [k % 10] = if k < 10 then [k % 10] else (k % 10) :: digF g (k / 10)
    rw [if_pos (by omega)]
  | f + 1, 0, k, _, h => by
    show (if k < 10 then [k % 10] else (k % 10) :: digF f (k / 10)) = [k % 10]
    rw [if_pos (by omega)]
  | f + 1, g + 1, k, h1, h2 => by
    show (if k < 10 then [k % 10] else (k % 10) :: digF f (k / 10)) = if k < 10 then [k % 10] else (k % 10) :: digF g (k / 10)
    by_cases hk : k < 10
    · rw [if_pos hk, if_pos hk]
    · rw [if_neg hk, if_neg hk, digF_fuel f g (k / 10) (by omega) (by omega)]
theorem dig_eq (k : Nat) : dig k = if k < 10 then [k % 10] else (k % 10) :: dig (k / 10) := by
  by_cases hk : k < 10
  · rw [if_pos hk]
    unfold dig
    rw [digF_fuel k (k + 1) k (Nat.le_refl _) (by omega)]
    show (if k < 10 then [k % 10] else (k % 10) :: digF k (k / 10)) = _
    rw [if_pos hk]
  · rw [if_neg hk]
    unfold dig
    rw [digF_fuel k (k + 1) k (Nat.le_refl _) (by omega)]
    show (if k < 10 then [k % 10] else (k % 10) :: digF k (k / 10)) = _
    rw [if_neg hk, digF_fuel k (k / 10) (k / 10) (by omega) (Nat.le_refl _)]
def undig : List Nat → Nat
  | [] => 0
  | d :: r => d + 10 * undig r
theorem undig_dig (k : Nat) : undig (dig k) = k := by
  induction k using Nat.strongRecOn with
  | ind k ih =>
    rw [dig_eq]
    split
    · simp [undig]; omega
    · rename_i h
      simp only [undig]
      rw [ih (k / 10) (by omega)]
      omega
theorem dig_lt (k : Nat) : ∀ d ∈ dig k, d < 10 := by
  induction k using Nat.strongRecOn with
  | ind k ih =>
    rw [dig_eq]
    split
    · intro d hd; simp at hd; omega
    · intro d hd
      rcases List.mem_cons.1 hd with rfl | hd
      · omega
      · exact ih (k / 10) (by omega) d hd
theorem dig_len (k : Nat) : (dig k).length ≤ k + 1 := by
  induction k using Nat.strongRecOn with
  | ind k ih =>
    rw [dig_eq]
    split
    · simp
    · have := ih (k / 10) (by omega)
      simp only [List.length_cons]
      omega
/-- The numbers of the id's bytes. -/
def idNums (k : Nat) : List Int := 110 :: ((dig k).reverse.map fun d : Nat => 48 + (d : Int))
/-- The id. -/
def idStr (k : Nat) : ByteArray := strOfNums (idNums k)

theorem map_inj_bytes : ∀ (a b : List Nat), (∀ d ∈ a, d < 10) → (∀ d ∈ b, d < 10) → (a.map fun d : Nat => UInt8.ofNat (48 + (d : Int)).toNat) = (b.map fun d : Nat => UInt8.ofNat (48 + (d : Int)).toNat) → a = b
  | [], [], _, _, _ => rfl
  | [], _ :: _, _, _, h => by simp at h
  | _ :: _, [], _, _, h => by simp at h
  | x :: a, y :: b, ha, hb, h => by
    simp only [List.map_cons, List.cons.injEq] at h
    have hx := ha x (by simp)
    have hy := hb y (by simp)
    have e : x = y := by
      have := congrArg UInt8.toNat h.1
      simp at this
      omega
    rw [e, map_inj_bytes a b (fun d hd => ha d (by simp [hd])) (fun d hd => hb d (by simp [hd])) h.2]

theorem idStr_inj {i j : Nat} (h : idStr i = idStr j) : i = j := by
  unfold idStr strOfNums idNums at h
  simp only [List.map_cons, List.map_map, Function.comp_def] at h
  have h1 := congrArg (fun b : ByteArray => b.data.toList) h
  simp only [List.cons.injEq, true_and] at h1
  have h2 := map_inj_bytes _ _ (fun d hd => dig_lt i d (by simpa using hd)) (fun d hd => dig_lt j d (by simpa using hd)) h1
  have h3 : dig i = dig j := by
    have := congrArg List.reverse h2
    simpa using this
  rw [← undig_dig i, ← undig_dig j, h3]

def missing : ByteArray := ⟨#[109, 105, 115, 115, 105, 110, 103]⟩
theorem idStr_ne_missing (i : Nat) : idStr i ≠ missing := by
  intro h
  have h1 := congrArg (fun b : ByteArray => b.data.toList) h
  unfold idStr strOfNums idNums missing at h1
  simp at h1

theorem info5 : (Ybaf.prog.info? 5).map (fun i => (i.zero, i.size, i.bytes)) = some (some (.int .u8 0), 1, 1) := by kernel_rfl
theorem info3 : (Ybaf.prog.info? 3).map (fun i => (i.zero, i.size, i.bytes)) = some (some (.int .i64 0), 1, 8) := by kernel_rfl

/-- The bytes of the digits. -/
def dbytes (l : List Nat) : List Value := l.map fun d : Nat => .int .u8 (48 + (d : Int))
theorem dbytes_one (l : List Nat) : ∀ u ∈ dbytes l, u.oneCell' = true := by
  intro u hu
  obtain ⟨d, _, rfl⟩ := List.mem_map.1 hu
  rfl

theorem below_grown' {w wr w1 : World} {v : Value} {base : Nat} {e : TypeId} {size n : Nat} {xs : List Value} (h : Below w.heap.size w wr) (hown : wr.ownsRow base e size v n xs) (hb : w.heap.size ≤ base) (hg : wr.grownBy w1 v.ownBlock) : Below w.heap.size w w1 :=
  below_grown h h.size hg (fun k hk => Nat.le_trans hb (hown.lt k hk).1)

/-- 'x = append(x, e)': x is a row of the call's own; e was laid into a block of its own. -/
theorem wpList_append_one {wr : World} {ops : Array Oper} {rest : List Oper} {o : Oper} {a : Act} {Q : Exit → Act → World → Prop} (hgd : o.guard = none) (s x : Operand) (t : TypeId)
    (ho : o.op = .call { callee := .builtin .append, args := #[s, x], argTypes := #[t, t] })
    (e : TypeId) (z : Value) (size bytes : Nat) (ht : Ybaf.prog.underlying t = some (.slice e)) (hinf : (Ybaf.prog.info? e).map (fun i => (i.zero, i.size, i.bytes)) = some (some z, size, bytes)) (hzs : z.cells.size = size) (hsz : 0 < size) (hby : bytes ≤ 1000)
    (v : Value) (n : Nat) (xs : List Value) (hs : a.eval s = v) (base : Nat) (hown : wr.ownsRow base e size v n xs) (hbase : base ≤ wr.heap.size)
    (us : List Value) (hl : us.length = size) (h1 : ∀ u ∈ us, u.oneCell' = true) (hx : a.eval x = .slice (some ⟨wr.heap.size, 0, none⟩) 1 1) (hn : n ≤ 10000000)
    (h : ∀ g cap w1, w1.ownsRow base e size (.slice (some ⟨g, 0, none⟩) (n + 1) cap) (n + 1) (xs ++ us) → wr.grownBy w1 v.ownBlock → (v.ownBlock = some g ∨ g = wr.heap.size + 1) → wpList Ybaf.prog ops Q rest (a.put o.dst (.slice (some ⟨g, 0, none⟩) (n + 1) cap)) w1) :
    wpList Ybaf.prog ops Q (o :: rest) a (wr.alloc (.cells us.toArray e)) := by
  obtain ⟨i0, hi0, hz0, hz1, hz2⟩ := info_parts hinf
  have hnew : ∀ (j : Nat) (u : Value), us[j]? = some u → (wr.alloc (.cells us.toArray e)).cell? ((⟨wr.heap.size, 0, none⟩ : Addr).add j) = some u := World.news_of_block (blk_alloc_new _ _)
  have hmul : (n + 1) * bytes ≤ (10000000 + 1) * 1000 := Nat.mul_le_mul (by omega) hby
  refine wpList_append_lies (P := Ybaf.prog) _ hgd s x t ho base e i0 z size bytes ht hi0 hz0 hz1 hz2 hzs hsz v n xs hs (hown.alloc _) ⟨wr.heap.size, 0, none⟩ 1 1 us hx (by rw [hl, Nat.one_mul]) hnew h1 (by omega) (by unfold maxLen; omega) (by omega) (by rw [nblk_alloc]; omega) _ rfl ?_
  intro g cap w1 ho1 hgr hat _
  refine h g cap w1 ho1 ⟨hgr.os, hgr.tape, hgr.output, ?_, fun k hk hne => ?_⟩ (by rw [nblk_alloc] at hat; exact hat)
  · have := hgr.size; rw [nblk_alloc] at this; omega
  · rw [hgr.block k (by rw [nblk_alloc]; omega) hne]
    exact blk_alloc_lt _ _ _ hk

end Go.Proofs.YbulkectmFmt.A
