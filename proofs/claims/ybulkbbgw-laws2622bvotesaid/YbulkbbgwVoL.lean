/-
  What lies in memory while the law restates the vote. No walk.
-/
import Derived.Test.YbulkbbgwVoV
namespace Go.Proofs.Ybulkbbgw.Vo
open Go.RowKit

/-- Block b has cells of type t. -/
def Tag (w : World) (b : Nat) (t : TypeId) : Prop := ∃ cur : Array Value, w.heap[b]? = some (.cells cur t (0, 0))
theorem Tag.ne {w : World} {a b : Nat} {s t : TypeId} (h : Tag w a s) (k : Tag w b t) (hst : s ≠ t) : a ≠ b := by
  rintro rfl
  obtain ⟨c, hc⟩ := h
  obtain ⟨d, hd⟩ := k
  have e := hc.symm.trans hd
  injection e with e
  injection e with _ e2 _
  exact hst e2
theorem Tag.lt {w : World} {b : Nat} {t : TypeId} (h : Tag w b t) : b < w.heap.size := by obtain ⟨c, hc⟩ := h; exact lt_of_block hc
theorem Tag.of_ge {w : World} {b n : Nat} {t : TypeId} {f : Nat → Value} (h : RowGe w b t n f) : Tag w b t := by obtain ⟨c, hc, _⟩ := h; exact ⟨c, hc⟩
theorem Tag.of_is {w : World} {b n : Nat} {t : TypeId} {f : Nat → Value} (h : w.rowIs b t n f) : Tag w b t := by obtain ⟨c, hc, _⟩ := h; exact ⟨c, hc⟩
theorem Tag.of_own {w : World} {base n b : Nat} {t : TypeId} {size : Nat} {v : Value} {xs : List Value} (h : w.ownsRow base t size v n xs) (hb : v.ownBlock = some b) : Tag w b t := by
  obtain ⟨_, ⟨rfl, _⟩ | ⟨g', cap, cur, rfl, _, hh, _⟩⟩ := h
  · simp [Value.ownBlock] at hb
  · simp only [Value.ownBlock, Option.some.injEq] at hb
    subst hb
    exact ⟨cur, hh⟩

/-- What the law expects so far: the failed names, the cells, who has lost. -/
structure LS (w5 wr : World) (N C ecb elb : Nat) (efv : Value) (fl : List ByteArray) (cellv : Nat → Int) (lostv : Nat → Bool) : Prop where
  below : Below w5.heap.size w5 wr
  ef : wr.ownsRow w5.heap.size 9 1 efv fl.length (fl.map Value.string)
  ec : RowGe wr ecb 2 (C + 1) (fun c => .int .i64 (cellv c))
  el : wr.rowIs elb 4 N (fun n => .bool (lostv n))
  ge : w5.heap.size ≤ ecb ∧ w5.heap.size ≤ elb
section
variable {w5 wr w1 : World} {N C ecb elb : Nat} {efv : Value} {fl : List ByteArray} {cellv cellv' : Nat → Int} {lostv lostv' : Nat → Bool}
theorem LS.later (h : LS w5 wr N C ecb elb efv fl cellv lostv) (hb : Below wr.heap.size wr w1) : LS w5 w1 N C ecb elb efv fl cellv lostv :=
  ⟨h.below.trans (hb.mono h.below.size), h.ef.kept (row := none) ⟨hb.os, hb.tape, hb.output, hb.size, fun k hk _ => hb.block k hk⟩ (by cases efv.ownBlock <;> simp), h.ec.of_block (hb.block _ h.ec.lt), h.el.of_block (hb.block _ h.el.lt), h.ge⟩
/-- A block of another kind turns. -/
theorem LS.other (h : LS w5 wr N C ecb elb efv fl cellv lostv) {b : Nat} {t : TypeId} (ht : Tag wr b t) (hb : w5.heap.size ≤ b) (h9 : t ≠ 9) (h2 : t ≠ 2) (h4 : t ≠ 4) (g : wr.grownBy w1 (some b)) : LS w5 w1 N C ecb elb efv fl cellv lostv := by
  have n2 : ecb ≠ b := (Tag.of_ge h.ec).ne ht (Ne.symm h2)
  have n4 : elb ≠ b := (Tag.of_is h.el).ne ht (Ne.symm h4)
  exact ⟨h.below.grown g h.below.size (fun k e => by simp at e; omega), h.ef.kept g (.inr fun e => (Tag.of_own h.ef e).ne ht (Ne.symm h9) rfl), h.ec.of_block (g.block _ h.ec.lt (by simp; exact n2)), h.el.of_block (g.block _ h.el.lt (by simp; exact n4)), h.ge⟩
theorem LS.congr (h : LS w5 wr N C ecb elb efv fl cellv lostv) (e1 : ∀ c, cellv c = cellv' c) (e2 : ∀ n, lostv n = lostv' n) : LS w5 wr N C ecb elb efv fl cellv' lostv' :=
  ⟨h.below, h.ef, h.ec.congr (fun i _ => by rw [e1]), h.el.congr (fun i _ => by rw [e2]), h.ge⟩
theorem LS.setC (h : LS w5 wr N C ecb elb efv fl cellv lostv) (c : Nat) (v : Int) : LS w5 (wr.setCell ⟨ecb, c, none⟩ (.int .i64 v)) N C ecb elb efv fl (fun x => if x = c then v else cellv x) lostv :=
  ⟨h.below.setCell h.ge.1 _, ownsRow_setCell_other h.ef (fun e => (Tag.of_own h.ef e).ne (Tag.of_ge h.ec) (by decide) rfl) _, (h.ec.set c _).congr (fun i _ => by split <;> rfl), h.el.setOther ((Tag.of_is h.el).ne (Tag.of_ge h.ec) (by decide)) _, h.ge⟩
theorem LS.setL (h : LS w5 wr N C ecb elb efv fl cellv lostv) (n : Nat) : LS w5 (wr.setCell ⟨elb, n, none⟩ (.bool true)) N C ecb elb efv fl cellv (fun x => if x = n then true else lostv x) :=
  ⟨h.below.setCell h.ge.2 _, ownsRow_setCell_other h.ef (fun e => (Tag.of_own h.ef e).ne (Tag.of_is h.el) (by decide) rfl) _, h.ec.of_block (heap_setCell_other _ _ _ _ ((Tag.of_ge h.ec).ne (Tag.of_is h.el) (by decide))), (h.el.set n _).congr (fun i _ => by split <;> rfl), h.ge⟩
theorem LS.addF (h : LS w5 wr N C ecb elb efv fl cellv lostv) {efv' : Value} {u : ByteArray} (g : wr.grownBy w1 efv.ownBlock) (ho : w1.ownsRow w5.heap.size 9 1 efv' (fl.length + 1) (fl.map Value.string ++ [.string u])) : LS w5 w1 N C ecb elb efv' (fl ++ [u]) cellv lostv := by
  have n2 : efv.ownBlock ≠ some ecb := fun e => (Tag.of_own h.ef e).ne (Tag.of_ge h.ec) (by decide) rfl
  have n4 : efv.ownBlock ≠ some elb := fun e => (Tag.of_own h.ef e).ne (Tag.of_is h.el) (by decide) rfl
  refine ⟨h.below.grown g h.below.size (fun k e => (h.ef.lt _ e).1), by rw [List.length_append, List.map_append]; exact ho, h.ec.of_block (g.block _ h.ec.lt (Ne.symm n2)), h.el.of_block (g.block _ h.el.lt (Ne.symm n4)), h.ge⟩
end

/-- A row of N reports made with room: the first are l. -/
def RRow (w : World) (b N : Nat) (l : List Rp) : Prop := ∃ cur : Array Value, w.heap[b]? = some (.cells cur 49 (0, 0)) ∧ cur.size = N * 2 ∧ ∀ (x : Nat) (r : Rp), l[x]? = some r → cur[x * 2]? = some (Value.int .i64 r.v) ∧ cur[x * 2 + 1]? = some (Value.bool r.p)
/-- A row of N ints made with room: the first are l. -/
def ORow (w : World) (b N : Nat) (l : List Nat) : Prop := ∃ cur : Array Value, w.heap[b]? = some (.cells cur 3 (0, 0)) ∧ cur.size = N ∧ ∀ (x n : Nat), l[x]? = some n → cur[x]? = some (Value.int .i64 n)
section
variable {w w1 : World} {b N : Nat}
theorem RRow.tag {l : List Rp} (h : RRow w b N l) : Tag w b 49 := by obtain ⟨c, hc, _⟩ := h; exact ⟨c, hc⟩
theorem ORow.tag {l : List Nat} (h : ORow w b N l) : Tag w b 3 := by obtain ⟨c, hc, _⟩ := h; exact ⟨c, hc⟩
theorem RRow.of_block {l : List Rp} (h : RRow w b N l) (e : w1.heap[b]? = w.heap[b]?) : RRow w1 b N l := by obtain ⟨c, hc, r⟩ := h; exact ⟨c, e.trans hc, r⟩
theorem ORow.of_block {l : List Nat} (h : ORow w b N l) (e : w1.heap[b]? = w.heap[b]?) : ORow w1 b N l := by obtain ⟨c, hc, r⟩ := h; exact ⟨c, e.trans hc, r⟩
theorem RRow.at {l : List Rp} (h : RRow w b N l) {x : Nat} {r : Rp} (hx : l[x]? = some r) : w.cell? ⟨b, x * 2, none⟩ = some (.int .i64 r.v) ∧ w.cell? ⟨b, x * 2 + 1, none⟩ = some (.bool r.p) := by
  obtain ⟨c, hc, _, h3⟩ := h
  exact ⟨(cell_of_row _ _ _ _ _ _ hc).trans (h3 x r hx).1, (cell_of_row _ _ _ _ _ _ hc).trans (h3 x r hx).2⟩
theorem ORow.at {l : List Nat} (h : ORow w b N l) {x n : Nat} (hx : l[x]? = some n) : w.cell? ⟨b, x, none⟩ = some (.int .i64 n) := by
  obtain ⟨c, hc, _, h3⟩ := h
  exact (cell_of_row _ _ _ _ _ _ hc).trans (h3 x n hx)
theorem RRow.some {l : List Rp} (h : RRow w b N l) {j : Nat} (hj : j < N * 2) : (w.cell? ⟨b, j, none⟩).isSome = true := by
  obtain ⟨cur, hb, hn, _⟩ := h; rw [cell_of_row _ _ _ _ _ _ hb, Array.getElem?_eq_getElem (by omega)]; rfl
theorem RRow.free {l : List Rp} (h : RRow w b N l) (j : Nat) : w.frozen? ⟨b, j, none⟩ = false := by
  obtain ⟨cur, hb, hn, _⟩ := h; exact frozen_of_row _ _ _ _ _ hb
theorem ORow.some {l : List Nat} (h : ORow w b N l) {j : Nat} (hj : j < N) : (w.cell? ⟨b, j, none⟩).isSome = true := by
  obtain ⟨cur, hb, hn, _⟩ := h; rw [cell_of_row _ _ _ _ _ _ hb, Array.getElem?_eq_getElem (by omega)]; rfl
theorem ORow.free {l : List Nat} (h : ORow w b N l) (j : Nat) : w.frozen? ⟨b, j, none⟩ = false := by
  obtain ⟨cur, hb, hn, _⟩ := h; exact frozen_of_row _ _ _ _ _ hb
theorem snoc_cases {α : Type} {l : List α} {u v : α} {x : Nat} (h : (l ++ [u])[x]? = some v) : (x < l.length ∧ l[x]? = some v) ∨ (x = l.length ∧ v = u) := by
  rcases Nat.lt_or_ge x l.length with hlt | hge
  · left; rw [List.getElem?_append_left hlt] at h; exact ⟨hlt, h⟩
  · right
    rw [List.getElem?_append_right hge] at h
    by_cases e : x - l.length = 0
    · rw [e] at h; simp at h; exact ⟨by omega, h.symm⟩
    · rw [List.getElem?_eq_none (by simp; omega)] at h; cases h
theorem RRow.add {l : List Rp} (h : RRow w b N l) (hl : l.length < N) (r : Rp) : RRow ((w.setCell ⟨b, l.length * 2, none⟩ (.int .i64 r.v)).setCell ⟨b, l.length * 2 + 1, none⟩ (.bool r.p)) b N (l ++ [r]) := by
  obtain ⟨cur, h1, h2, h3⟩ := h
  refine ⟨(cur.setIfInBounds (l.length * 2) (.int .i64 r.v)).setIfInBounds (l.length * 2 + 1) (.bool r.p), heap_setCell_same _ _ _ _ _ _ (heap_setCell_same _ _ _ _ _ _ h1), by simpa using h2, fun x v hx => ?_⟩
  simp only [Array.getElem?_setIfInBounds, Array.size_setIfInBounds]
  rcases snoc_cases hx with ⟨hlt, hx'⟩ | ⟨rfl, rfl⟩
  · rw [if_neg (by omega), if_neg (by omega), if_neg (by omega), if_neg (by omega)]
    exact h3 x v hx'
  · rw [if_neg (by omega), if_pos rfl, if_pos (by omega), if_pos rfl, if_pos (by omega)]
    exact ⟨rfl, rfl⟩
theorem ORow.add {l : List Nat} (h : ORow w b N l) (hl : l.length < N) (n : Nat) : ORow (w.setCell ⟨b, l.length, none⟩ (.int .i64 n)) b N (l ++ [n]) := by
  obtain ⟨cur, h1, h2, h3⟩ := h
  refine ⟨cur.setIfInBounds l.length (.int .i64 n), heap_setCell_same _ _ _ _ _ _ h1, by simpa using h2, fun x v hx => ?_⟩
  rw [Array.getElem?_setIfInBounds]
  rcases snoc_cases hx with ⟨hlt, hx'⟩ | ⟨rfl, rfl⟩
  · rw [if_neg (by omega)]; exact h3 x v hx'
  · rw [if_pos rfl, if_pos (by omega)]
end

/-- The nodes that are in, of the first n. -/
def ow (inn : Nat → Bool) : Nat → List Nat
  | 0 => []
  | n + 1 => ow inn n ++ (if inn n = true then [n] else [])
theorem ow_length (inn : Nat → Bool) : ∀ n, (ow inn n).length = idx inn n
  | 0 => rfl
  | n + 1 => by simp only [ow, idx, List.length_append, ow_length inn n]; split <;> rfl
theorem ow_mem (inn : Nat → Bool) : ∀ {n m : Nat}, m ∈ ow inn n ↔ m < n ∧ inn m = true
  | 0, m => by simp [ow]
  | n + 1, m => by
    simp only [ow, List.mem_append, ow_mem inn]
    by_cases h : inn n = true
    · simp only [h, if_true, List.mem_singleton]
      constructor
      · rintro (⟨h1, h2⟩ | rfl)
        · exact ⟨by omega, h2⟩
        · exact ⟨by omega, h⟩
      · rintro ⟨h1, h2⟩
        by_cases e : m = n
        · exact .inr e
        · exact .inl ⟨by omega, h2⟩
    · simp only [if_neg h, List.not_mem_nil, or_false]
      constructor
      · rintro ⟨h1, h2⟩; exact ⟨by omega, h2⟩
      · rintro ⟨h1, h2⟩
        refine ⟨?_, h2⟩
        by_cases e : m = n
        · rw [e] at h2; exact absurd h2 h
        · omega
theorem rl_ow (inn : Nat → Bool) (rp : Nat → Rp) : ∀ n, rl inn rp n = (ow inn n).map rp
  | 0 => rfl
  | n + 1 => by simp only [rl, ow, List.map_append, rl_ow inn rp n]; split <;> rfl
/-- Who has lost, once the first j owners are judged. -/
def lostJ (inn : Nat → Bool) (N : Nat) (rep : Nat → Rp) (won : Rp) (lost : Nat → Bool) (j n : Nat) : Bool := lost n || (((ow inn N).take j).contains n && decide (n ≠ 0) && decide (rep n ≠ won))
theorem lostJ_zero (inn : Nat → Bool) (N : Nat) (rep : Nat → Rp) (won : Rp) (lost : Nat → Bool) (n : Nat) : lostJ inn N rep won lost 0 n = lost n := by simp [lostJ]
theorem lostJ_all (inn : Nat → Bool) (N : Nat) (rep : Nat → Rp) (won : Rp) (lost : Nat → Bool) (n : Nat) : lostJ inn N rep won lost (idx inn N) n = lostF inn rep won lost N n := by
  unfold lostJ lostF
  rw [← ow_length, List.take_length]
  have : (ow inn N).contains n = (decide (n < N) && inn n) := by
    rw [Bool.eq_iff_iff]
    simp [ow_mem]
  rw [this]
theorem lostJ_succ {inn : Nat → Bool} {N : Nat} {rep : Nat → Rp} {won : Rp} {lost : Nat → Bool} {j o : Nat} (h : (ow inn N)[j]? = some o) (n : Nat) : lostJ inn N rep won lost (j + 1) n = if n = o ∧ o ≠ 0 ∧ rep o ≠ won then true else lostJ inn N rep won lost j n := by
  unfold lostJ
  have e : (ow inn N).take (j + 1) = (ow inn N).take j ++ [o] := by rw [List.take_add_one, h]; rfl
  rw [e]
  by_cases hn : n = o
  · subst hn
    by_cases h2 : n ≠ 0 ∧ rep n ≠ won
    · rw [if_pos ⟨rfl, h2⟩]; simp [h2.1, h2.2]
    · rw [if_neg (fun h => h2 h.2)]
      have : (decide (n ≠ 0) && decide (rep n ≠ won)) = false := by
        rw [Bool.and_eq_false_iff]
        by_cases h0 : n ≠ 0
        · right; exact decide_eq_false (fun h => h2 ⟨h0, h⟩)
        · left; exact decide_eq_false h0
      simp only [Bool.and_assoc, this, Bool.and_false]
  · rw [if_neg (fun h => hn h.1)]
    have : ((ow inn N).take j ++ [o]).contains n = ((ow inn N).take j).contains n := by
      rw [Bool.eq_iff_iff]
      simp [hn]
    rw [this]
end Go.Proofs.Ybulkbbgw.Vo
