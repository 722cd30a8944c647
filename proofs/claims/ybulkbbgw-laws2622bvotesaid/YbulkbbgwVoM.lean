/-
  What lies in memory while (*Replica).voteCells runs. No walk.
-/
import Derived.Test.YbulkbbgwVoP
import Derived.Test.YbulkbbgwVoF
namespace Go.Proofs.Ybulkbbgw.Vo
open Go.RowKit

/-- The world has gone on; of what was there only the blocks of S may have turned. -/
structure GB (S : List Nat) (w w' : World) : Prop where
  os : w'.os = w.os
  tape : w'.tape = w.tape
  output : w'.output = w.output
  size : w.heap.size ≤ w'.heap.size
  block : ∀ k, k < w.heap.size → k ∉ S → w'.heap[k]? = w.heap[k]?
section
variable {S : List Nat} {w w' w'' : World}
theorem GB.refl (S : List Nat) (w : World) : GB S w w := ⟨rfl, rfl, rfl, Nat.le_refl _, fun _ _ _ => rfl⟩
theorem GB.trans (h : GB S w w') (k : GB S w' w'') : GB S w w'' :=
  ⟨k.os.trans h.os, k.tape.trans h.tape, k.output.trans h.output, Nat.le_trans h.size k.size, fun x hx hn => (k.block x (Nat.lt_of_lt_of_le hx h.size) hn).trans (h.block x hx hn)⟩
theorem GB.of_below (h : Below w.heap.size w w') : GB S w w' := ⟨h.os, h.tape, h.output, h.size, fun k hk _ => h.block k hk⟩
theorem GB.below (h : GB S w w') (hb : Below w'.heap.size w' w'') : GB S w w'' := h.trans (GB.of_below hb)
theorem GB.set (h : GB S w w') {b : Nat} (hb : b ∈ S) (o : Nat) (v : Value) : GB S w (w'.setCell ⟨b, o, none⟩ v) :=
  h.trans ⟨rfl, rfl, rfl, by simp, fun k _ hn => heap_setCell_other _ _ _ _ (fun e => hn (by rw [e]; exact hb))⟩
theorem GB.grown (h : GB S w w') {row : Option Nat} (g : w'.grownBy w'' row) (hr : ∀ k, row = some k → k ∈ S ∨ w.heap.size ≤ k) : GB S w w'' :=
  ⟨g.os.trans h.os, g.tape.trans h.tape, g.output.trans h.output, Nat.le_trans h.size g.size, fun k hk hn => (g.block k (Nat.lt_of_lt_of_le hk h.size) (fun e => (hr k e.symm).elim hn (fun h1 => by omega))).trans (h.block k hk hn)⟩
theorem GB.cell (h : GB S w w') {p : Addr} (h1 : p.block < w.heap.size) (h2 : p.block ∉ S) : w'.cell? p = w.cell? p := World.cell?_of_block (h.block _ h1 h2)
theorem GB.to_below (h : GB S w w') {B : Nat} {w0 : World} (hb : Below B w0 w) (hB : B ≤ w.heap.size) (hS : ∀ b, b ∈ S → B ≤ b) : Below B w0 w' :=
  ⟨h.os.trans hb.os, h.tape.trans hb.tape, h.output.trans hb.output, Nat.le_trans hb.size h.size, fun k hk => (h.block k (by omega) (fun e => by have := hS k e; omega)).trans (hb.block k hk)⟩
end

/-- What voteCells reads and nobody turns. -/
structure VIm (w : World) (S : List Nat) (N C pb nb ncap vb vcap cb ib lb bb kb : Nat) (bl : Nat → Nat) (inn : Nat → Bool) (ctr : Nat → Rp) (bal : Nat → Nat → Rp) (nm : Nat → ByteArray) : Prop where
  p1 : w.cell? ⟨pb, 1, none⟩ = some (.slice (some ⟨nb, 0, none⟩) (C + 1) ncap)
  p5 : w.cell? ⟨pb, 5, none⟩ = some (.slice (some ⟨vb, 0, none⟩) (C + 1) vcap)
  slots : Slots w vb C
  names : ∀ x, x ≤ C → w.cell? ⟨nb, x, none⟩ = some (.string (nm x))
  c0 : w.cell? ⟨cb, 0, none⟩ = some (.int .i64 0)
  c1 : w.cell? ⟨cb, 1, none⟩ = some (.slice (some ⟨ib, 0, none⟩) N N)
  c6 : w.cell? ⟨cb, 6, none⟩ = some (.slice (some ⟨lb, 0, none⟩) N N)
  inn : w.rowIs ib 4 N (fun n => .bool (inn n))
  bal1 : ∀ n, n < N → w.cell? ⟨bb, n, none⟩ = some (.slice (some ⟨bl n, 0, none⟩) C C)
  bal2 : ∀ n, n < N → RpsAt w (bl n) C (bal n)
  ctr : RpsAt w kb N ctr
  lt : ∀ b, b = pb ∨ b = nb ∨ b = vb ∨ b = cb ∨ b = ib ∨ b = bb ∨ b = kb ∨ (∃ n, n < N ∧ b = bl n) → b < w.heap.size ∧ b ∉ S

theorem VIm.keep {w w' : World} {S : List Nat} {N C pb nb ncap vb vcap cb ib lb bb kb : Nat} {bl : Nat → Nat} {inn : Nat → Bool} {ctr : Nat → Rp} {bal : Nat → Nat → Rp} {nm : Nat → ByteArray} (h : VIm w S N C pb nb ncap vb vcap cb ib lb bb kb bl inn ctr bal nm) (g : GB S w w') : VIm w' S N C pb nb ncap vb vcap cb ib lb bb kb bl inn ctr bal nm := by
  have L := h.lt
  have cell : ∀ b j, (b = pb ∨ b = nb ∨ b = vb ∨ b = cb ∨ b = ib ∨ b = bb ∨ b = kb ∨ (∃ n, n < N ∧ b = bl n)) → w'.cell? ⟨b, j, none⟩ = w.cell? ⟨b, j, none⟩ := fun b j hb => g.cell (p := ⟨b, j, none⟩) (L b hb).1 (L b hb).2
  refine ⟨(cell _ _ (by simp)).trans h.p1, (cell _ _ (by simp)).trans h.p5, fun x hx => ⟨(cell _ _ (by simp)).trans (h.slots x hx).1, (cell _ _ (by simp)).trans (h.slots x hx).2⟩, fun x hx => (cell _ _ (by simp)).trans (h.names x hx), (cell _ _ (by simp)).trans h.c0, (cell _ _ (by simp)).trans h.c1, (cell _ _ (by simp)).trans h.c6, h.inn.of_block (g.block _ (L ib (by simp)).1 (L ib (by simp)).2), fun n hn => (cell _ _ (by simp)).trans (h.bal1 n hn), fun n hn x hx => ⟨(cell _ _ (.inr (.inr (.inr (.inr (.inr (.inr (.inr ⟨n, hn, rfl⟩)))))))).trans (h.bal2 n hn x hx).1, (cell _ _ (.inr (.inr (.inr (.inr (.inr (.inr (.inr ⟨n, hn, rfl⟩)))))))).trans (h.bal2 n hn x hx).2⟩, fun x hx => ⟨(cell _ _ (by simp)).trans (h.ctr x hx).1, (cell _ _ (by simp)).trans (h.ctr x hx).2⟩, fun b hb => ⟨Nat.lt_of_lt_of_le (L b hb).1 g.size, (L b hb).2⟩⟩

/-- The reports as cells. -/
def rpCells (l : List Rp) : List Value := l.flatMap fun r => [.int .i64 r.v, .bool r.p]
theorem rpCells_append (l : List Rp) (r : Rp) : rpCells (l ++ [r]) = rpCells l ++ [.int .i64 r.v, .bool r.p] := by simp [rpCells]
theorem rpCells_length : ∀ l : List Rp, (rpCells l).length = l.length * 2
  | [] => rfl
  | r :: l => by have := rpCells_length l; simp [rpCells] at this ⊢; omega
theorem rpCells_at : ∀ (l : List Rp) (x : Nat) (r : Rp), l[x]? = some r → (rpCells l)[x * 2]? = some (.int .i64 r.v) ∧ (rpCells l)[x * 2 + 1]? = some (.bool r.p)
  | [], x, r, h => by simp at h
  | r0 :: l, 0, r, h => by simp at h; subst h; simp [rpCells]
  | r0 :: l, x + 1, r, h => by
    have ih := rpCells_at l x r (by simpa using h)
    have e1 : (x + 1) * 2 = x * 2 + 2 := by omega
    have e2 : (x + 1) * 2 + 1 = x * 2 + 1 + 2 := by omega
    have e3 : rpCells (r0 :: l) = .int .i64 r0.v :: .bool r0.p :: rpCells l := by simp [rpCells]
    rw [e2, e1, e3]
    simpa using ih
theorem RpsAt.of_owns {w : World} {base g cap : Nat} {l : List Rp} (h : w.ownsRow base 49 2 (.slice (some ⟨g, 0, none⟩) l.length cap) l.length (rpCells l)) : RpsAt w g l.length (fun x => l[x]?.getD ⟨0, false⟩) := by
  intro x hx
  obtain ⟨_, ⟨hv, _⟩ | ⟨g', cap', cur, hv, _, hh, h1, h2, h3, h4⟩⟩ := h
  · simp at hv
  · simp at hv
    obtain ⟨rfl, rfl⟩ := hv
    have e : l[x]? = some l[x] := List.getElem?_eq_getElem hx
    obtain ⟨e1, e2⟩ := rpCells_at l x _ e
    have key : ∀ j, j < l.length * 2 → cur[j]? = (rpCells l)[j]? := fun j hj => by rw [← h4, List.getElem?_take_of_lt hj]; simp
    have e' : l[x]?.getD ⟨0, false⟩ = l[x] := by rw [e]; rfl
    show w.cell? ⟨g, x * 2, none⟩ = some (.int .i64 (l[x]?.getD ⟨0, false⟩).v) ∧ w.cell? ⟨g, x * 2 + 1, none⟩ = some (.bool (l[x]?.getD ⟨0, false⟩).p)
    rw [e']
    exact ⟨(cell_of_row _ _ _ _ _ _ hh).trans ((key _ (by omega)).trans e1), (cell_of_row _ _ _ _ _ _ hh).trans ((key _ (by omega)).trans e2)⟩

/-- The row of failed names: eight cells, the first are l. -/
def FRow (w : World) (fb : Nat) (l : List ByteArray) : Prop := ∃ cur : Array Value, w.heap[fb]? = some (.cells cur 9 (0, 0)) ∧ cur.size = 8 ∧ ∀ (x : Nat) (u : ByteArray), l[x]? = some u → cur[x]? = some (Value.string u)
theorem FRow.of_block {w w' : World} {fb : Nat} {l : List ByteArray} (h : FRow w fb l) (e : w'.heap[fb]? = w.heap[fb]?) : FRow w' fb l := by
  obtain ⟨cur, h1, h2, h3⟩ := h; exact ⟨cur, e.trans h1, h2, h3⟩
theorem FRow.lt {w : World} {fb : Nat} {l : List ByteArray} (h : FRow w fb l) : fb < w.heap.size := by obtain ⟨cur, h1, _⟩ := h; exact lt_of_block h1
theorem FRow.some {w : World} {fb : Nat} {l : List ByteArray} (h : FRow w fb l) {j : Nat} (hj : j < 8) : (w.cell? ⟨fb, j, none⟩).isSome = true := by
  obtain ⟨cur, hb, hn, _⟩ := h; rw [cell_of_row _ _ _ _ _ _ hb, Array.getElem?_eq_getElem (by omega)]; rfl
theorem FRow.free {w : World} {fb : Nat} {l : List ByteArray} (h : FRow w fb l) (j : Nat) : w.frozen? ⟨fb, j, none⟩ = false := by
  obtain ⟨cur, hb, hn, _⟩ := h; exact frozen_of_row _ _ _ _ _ hb
theorem FRow.add {w : World} {fb : Nat} {l : List ByteArray} (h : FRow w fb l) (hl : l.length < 8) (u : ByteArray) : FRow (w.setCell ⟨fb, l.length, none⟩ (.string u)) fb (l ++ [u]) := by
  obtain ⟨cur, h1, h2, h3⟩ := h
  refine ⟨cur.setIfInBounds l.length (.string u), heap_setCell_same _ _ _ _ _ _ h1, by simpa using h2, fun x v hx => ?_⟩
  rw [Array.getElem?_setIfInBounds]
  by_cases e : l.length = x
  · subst e
    rw [List.getElem?_append_right (Nat.le_refl _)] at hx
    simp at hx
    subst hx
    simp [h2, hl]
  · rw [if_neg e]
    have hlt : x < l.length := by
      rcases Nat.lt_or_ge x l.length with h | h
      · exact h
      · rw [List.getElem?_append_right h] at hx
        have : x - l.length ≠ 0 := by omega
        rw [List.getElem?_eq_none (by simp; omega)] at hx
        cases hx
    rw [List.getElem?_append_left hlt] at hx
    exact h3 x v hx

/-- What voteCells turns: r's field reports, its cells, lost, the failed names. -/
structure VM (w0 wr : World) (N C rb pb eb cb lb fb : Nat) (cellv : Nat → Int) (lostv : Nat → Bool) (fl : List ByteArray) (dv : Value) (l : List Rp) : Prop where
  gb : GB [rb, eb, lb, fb] w0 wr
  r0 : wr.cell? ⟨rb, 0, none⟩ = some (.pointer (some ⟨pb, 0, none⟩))
  r1 : wr.cell? ⟨rb, 1, none⟩ = some (.int .i64 1)
  r2 : wr.cell? ⟨rb, 2, none⟩ = some (.slice (some ⟨eb, 0, none⟩) (C + 1) (C + 1))
  r4 : wr.cell? ⟨rb, 4, none⟩ = some dv
  r5 : wr.cell? ⟨rb, 5, none⟩ = some (.pointer (some ⟨cb, 0, none⟩))
  rf : ∀ j, wr.frozen? ⟨rb, j, none⟩ = false
  cells : wr.rowIs eb 2 (C + 1) (fun c => .int .i64 (cellv c))
  lost : wr.rowIs lb 4 N (fun n => .bool (lostv n))
  fail : FRow wr fb fl
  held : wr.ownsRow w0.heap.size 49 2 dv l.length (rpCells l)
  lts : rb < w0.heap.size ∧ eb < w0.heap.size ∧ lb < w0.heap.size ∧ fb < w0.heap.size
  ne : rb ≠ eb ∧ rb ≠ lb ∧ rb ≠ fb ∧ eb ≠ lb ∧ eb ≠ fb ∧ lb ≠ fb
section
variable {w0 wr w1 : World} {N C rb pb eb cb lb fb : Nat} {cellv : Nat → Int} {lostv : Nat → Bool} {fl : List ByteArray} {dv : Value} {l : List Rp}
theorem VM.rlt (h : VM w0 wr N C rb pb eb cb lb fb cellv lostv fl dv l) : rb < wr.heap.size := Nat.lt_of_lt_of_le h.lts.1 h.gb.size
theorem VM.own (h : VM w0 wr N C rb pb eb cb lb fb cellv lostv fl dv l) {b : Nat} (hb : b < w0.heap.size) : dv.ownBlock ≠ some b := fun e => by have := (h.held.lt _ e).1; omega
/-- Only new blocks. -/
theorem VM.later (h : VM w0 wr N C rb pb eb cb lb fb cellv lostv fl dv l) (hb : Below wr.heap.size wr w1) : VM w0 w1 N C rb pb eb cb lb fb cellv lostv fl dv l where
  gb := h.gb.below hb
  r0 := (hb.cell (p := ⟨rb, 0, none⟩) h.rlt).trans h.r0
  r1 := (hb.cell (p := ⟨rb, 1, none⟩) h.rlt).trans h.r1
  r2 := (hb.cell (p := ⟨rb, 2, none⟩) h.rlt).trans h.r2
  r4 := (hb.cell (p := ⟨rb, 4, none⟩) h.rlt).trans h.r4
  r5 := (hb.cell (p := ⟨rb, 5, none⟩) h.rlt).trans h.r5
  rf := fun j => (hb.frozen (p := ⟨rb, j, none⟩) h.rlt).trans (h.rf j)
  cells := h.cells.of_block (hb.block _ h.cells.lt)
  lost := h.lost.of_block (hb.block _ h.lost.lt)
  fail := h.fail.of_block (hb.block _ h.fail.lt)
  held := h.held.kept (row := none) ⟨hb.os, hb.tape, hb.output, hb.size, fun k hk _ => hb.block k hk⟩ (by cases dv.ownBlock <;> simp)
  lts := h.lts
  ne := h.ne
/-- Another block than r's turns; the field reports too. -/
theorem VM.turn (h : VM w0 wr N C rb pb eb cb lb fb cellv lostv fl dv l) {dv' : Value} {l' : List Rp} {cellv' : Nat → Int} {lostv' : Nat → Bool} {fl' : List ByteArray} (hg : GB [rb, eb, lb, fb] w0 w1) (hr : ∀ j, j ≠ 4 → w1.cell? ⟨rb, j, none⟩ = wr.cell? ⟨rb, j, none⟩) (h4 : w1.cell? ⟨rb, 4, none⟩ = some dv') (hf : ∀ j, w1.frozen? ⟨rb, j, none⟩ = false)
    (hc : w1.rowIs eb 2 (C + 1) (fun c => .int .i64 (cellv' c))) (hl : w1.rowIs lb 4 N (fun n => .bool (lostv' n))) (hfl : FRow w1 fb fl') (hh : w1.ownsRow w0.heap.size 49 2 dv' l'.length (rpCells l')) : VM w0 w1 N C rb pb eb cb lb fb cellv' lostv' fl' dv' l' :=
  ⟨hg, (hr 0 (by decide)).trans h.r0, (hr 1 (by decide)).trans h.r1, (hr 2 (by decide)).trans h.r2, h4, (hr 5 (by decide)).trans h.r5, hf, hc, hl, hfl, hh, h.lts, h.ne⟩
/-- A store into r.reports. -/
theorem VM.setR (h : VM w0 wr N C rb pb eb cb lb fb cellv lostv fl dv l) {dv' : Value} {l' : List Rp} (hh : wr.ownsRow w0.heap.size 49 2 dv' l'.length (rpCells l')) : VM w0 (wr.setCell ⟨rb, 4, none⟩ dv') N C rb pb eb cb lb fb cellv lostv fl dv' l' := by
  obtain ⟨n1, n2, n3, _⟩ := h.ne
  have hown : dv'.ownBlock ≠ some rb := fun e => by have := (hh.lt _ e).1; have := h.lts.1; omega
  refine h.turn (h.gb.set (by simp) _ _) (fun j hj => World.cell?_setCell_other _ _ _ _ (by intro e; injection e with _ e2; exact hj e2.symm)) ?_ (fun j => (World.frozen?_setCell _ _ _ _).trans (h.rf j)) (h.cells.setOther (Ne.symm n1) _) (h.lost.setOther (Ne.symm n2) _) (h.fail.of_block (heap_setCell_other _ _ _ _ (Ne.symm n3))) (ownsRow_setCell_other hh hown _)
  exact World.cell?_setCell_same _ _ _ h.r4
/-- A store into a cell. -/
theorem VM.setC (h : VM w0 wr N C rb pb eb cb lb fb cellv lostv fl dv l) (c : Nat) (v : Int) : VM w0 (wr.setCell ⟨eb, c, none⟩ (.int .i64 v)) N C rb pb eb cb lb fb (fun x => if x = c then v else cellv x) lostv fl dv l := by
  obtain ⟨n1, n2, n3, n4, n5, n6⟩ := h.ne
  have hcell : ∀ j, (wr.setCell ⟨eb, c, none⟩ (.int .i64 v)).cell? ⟨rb, j, none⟩ = wr.cell? ⟨rb, j, none⟩ := fun j => World.cell?_of_block (a := ⟨rb, j, none⟩) (heap_setCell_other _ _ _ _ n1)
  exact h.turn (h.gb.set (by simp) _ _) (fun j _ => hcell j) ((hcell 4).trans h.r4) (fun j => (World.frozen?_of_block (a := ⟨rb, j, none⟩) (heap_setCell_other _ _ _ _ n1)).trans (h.rf j)) ((h.cells.set c _).congr (fun i _ => by split <;> rfl)) (h.lost.setOther (Ne.symm n4) _) (h.fail.of_block (heap_setCell_other _ _ _ _ (Ne.symm n5))) (ownsRow_setCell_other h.held (h.own h.lts.2.1) _)
/-- A name more. -/
theorem VM.addF (h : VM w0 wr N C rb pb eb cb lb fb cellv lostv fl dv l) (hl : fl.length < 8) (u : ByteArray) : VM w0 (wr.setCell ⟨fb, fl.length, none⟩ (.string u)) N C rb pb eb cb lb fb cellv lostv (fl ++ [u]) dv l := by
  obtain ⟨n1, n2, n3, n4, n5, n6⟩ := h.ne
  have hcell : ∀ j, (wr.setCell ⟨fb, fl.length, none⟩ (.string u)).cell? ⟨rb, j, none⟩ = wr.cell? ⟨rb, j, none⟩ := fun j => World.cell?_of_block (a := ⟨rb, j, none⟩) (heap_setCell_other _ _ _ _ n3)
  exact h.turn (h.gb.set (by simp) _ _) (fun j _ => hcell j) ((hcell 4).trans h.r4) (fun j => (World.frozen?_of_block (a := ⟨rb, j, none⟩) (heap_setCell_other _ _ _ _ n3)).trans (h.rf j)) (h.cells.setOther n5 _) (h.lost.setOther n6 _) (h.fail.add hl u) (ownsRow_setCell_other h.held (h.own h.lts.2.2.2) _)
/-- Who has lost. -/
theorem VM.setL (h : VM w0 wr N C rb pb eb cb lb fb cellv lostv fl dv l) {lostv' : Nat → Bool} (g : wr.grownBy w1 (some lb)) (hl : w1.rowIs lb 4 N (fun n => .bool (lostv' n))) : VM w0 w1 N C rb pb eb cb lb fb cellv lostv' fl dv l := by
  obtain ⟨n1, n2, n3, n4, n5, n6⟩ := h.ne
  have blk : ∀ b, b < wr.heap.size → b ≠ lb → w1.heap[b]? = wr.heap[b]? := fun b hb hne => g.block b hb (by simp; exact hne)
  have hcell : ∀ j, w1.cell? ⟨rb, j, none⟩ = wr.cell? ⟨rb, j, none⟩ := fun j => World.cell?_of_block (a := ⟨rb, j, none⟩) (blk rb h.rlt n2)
  exact h.turn (h.gb.grown g (fun k e => by simp at e; left; simp; omega)) (fun j _ => hcell j) ((hcell 4).trans h.r4) (fun j => (World.frozen?_of_block (a := ⟨rb, j, none⟩) (blk rb h.rlt n2)).trans (h.rf j)) (h.cells.of_block (blk eb h.cells.lt n4)) hl (h.fail.of_block (blk fb h.fail.lt (Ne.symm n6))) (h.held.kept g (.inr (h.own h.lts.2.2.1)))
/-- The reports' row has grown. -/
theorem VM.append (h : VM w0 wr N C rb pb eb cb lb fb cellv lostv fl dv l) (o : Obj) {gd cap : Nat} (r : Rp) (hgrow : (wr.alloc o).grownBy w1 dv.ownBlock)
    (hown : w1.ownsRow w0.heap.size 49 2 (.slice (some ⟨gd, 0, none⟩) (l.length + 1) cap) (l.length + 1) (rpCells l ++ [.int .i64 r.v, .bool r.p])) :
    VM w0 (w1.setCell ⟨rb, 4, none⟩ (.slice (some ⟨gd, 0, none⟩) (l.length + 1) cap)) N C rb pb eb cb lb fb cellv lostv fl (.slice (some ⟨gd, 0, none⟩) (l.length + 1) cap) (l ++ [r]) := by
  have hA := h.later ((Below.refl _ wr).alloc (Nat.le_refl _) o)
  have blk : ∀ b, b < w0.heap.size → w1.heap[b]? = (wr.alloc o).heap[b]? := fun b hb => hgrow.block b (Nat.lt_of_lt_of_le hb hA.gb.size) (fun e => h.own hb e.symm)
  obtain ⟨l1, l2, l3, l4⟩ := h.lts
  have hcell : ∀ j, w1.cell? ⟨rb, j, none⟩ = (wr.alloc o).cell? ⟨rb, j, none⟩ := fun j => World.cell?_of_block (a := ⟨rb, j, none⟩) (blk rb l1)
  have hw : w1.ownsRow w0.heap.size 49 2 (.slice (some ⟨gd, 0, none⟩) (l.length + 1) cap) (l ++ [r]).length (rpCells (l ++ [r])) := by
    rw [rpCells_append, List.length_append]; exact hown
  have hgb : GB [rb, eb, lb, fb] w0 w1 := hA.gb.grown hgrow (fun k e => .inr (h.held.lt _ e).1)
  obtain ⟨n1, n2, n3, _⟩ := h.ne
  have hown2 : (Value.slice (some ⟨gd, 0, none⟩) (l.length + 1) cap).ownBlock ≠ some rb := fun e => by have := (hw.lt _ e).1; omega
  refine hA.turn (hgb.set (by simp) _ _) (fun j hj => (World.cell?_setCell_other _ _ _ _ (by intro e; injection e with _ e2; exact hj e2.symm)).trans (hcell j)) (World.cell?_setCell_same _ _ _ ((hcell 4).trans hA.r4)) (fun j => (World.frozen?_setCell _ _ _ _).trans ((World.frozen?_of_block (a := ⟨rb, j, none⟩) (blk rb l1)).trans (hA.rf j))) ((hA.cells.of_block (blk eb l2)).setOther (Ne.symm n1) _) ((hA.lost.of_block (blk lb l3)).setOther (Ne.symm n2) _) ((hA.fail.of_block (blk fb l4)).of_block (heap_setCell_other _ _ _ _ (Ne.symm n3))) (ownsRow_setCell_other hw hown2 _)
end
end Go.Proofs.Ybulkbbgw.Vo
