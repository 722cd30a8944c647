/-
  What lies in memory in the law's first half: the plan, the replica, the ballots. No walk.
-/
import Derived.Test.YbulkbbgwVoK
namespace Go.Proofs.Ybulkbbgw.Vo
open Go.RowKit

/-- A row of C + 1 slots: the first n are as Slots wants them. -/
def SRow (w : World) (vb C n : Nat) : Prop := ∃ cur : Array Value, w.heap[vb]? = some (.cells cur 28 (0, 0)) ∧ cur.size = (C + 1) * 2 ∧ ∀ x : Nat, x < n → cur[x * 2]? = some (Value.int .i64 (if x < C then 1 else 2)) ∧ cur[x * 2 + 1]? = some (Value.int .i64 x)
section
variable {w w1 : World} {vb C n : Nat}
theorem SRow.lt (h : SRow w vb C n) : vb < w.heap.size := by obtain ⟨c, hc, _⟩ := h; exact lt_of_block hc
theorem SRow.of_block (h : SRow w vb C n) (e : w1.heap[vb]? = w.heap[vb]?) : SRow w1 vb C n := by obtain ⟨c, hc, r⟩ := h; exact ⟨c, e.trans hc, r⟩
theorem SRow.some (h : SRow w vb C n) {j : Nat} (hj : j < (C + 1) * 2) : (w.cell? ⟨vb, j, none⟩).isSome = true := by
  obtain ⟨cur, hb, hn, _⟩ := h; rw [cell_of_row _ _ _ _ _ _ hb, Array.getElem?_eq_getElem (by omega)]; rfl
theorem SRow.free (h : SRow w vb C n) (j : Nat) : w.frozen? ⟨vb, j, none⟩ = false := by
  obtain ⟨cur, hb, hn, _⟩ := h; exact frozen_of_row _ _ _ _ _ hb
theorem SRow.add (h : SRow w vb C n) (hn : n < C + 1) (fr : Int) (hfr : (if n < C then 1 else 2) = fr) : SRow ((w.setCell ⟨vb, n * 2, none⟩ (.int .i64 fr)).setCell ⟨vb, n * 2 + 1, none⟩ (.int .i64 n)) vb C (n + 1) := by
  obtain ⟨cur, h1, h2, h3⟩ := h
  refine ⟨(cur.setIfInBounds (n * 2) (.int .i64 fr)).setIfInBounds (n * 2 + 1) (.int .i64 n), heap_setCell_same _ _ _ _ _ _ (heap_setCell_same _ _ _ _ _ _ h1), by simpa using h2, fun x hx => ?_⟩
  simp only [Array.getElem?_setIfInBounds, Array.size_setIfInBounds]
  by_cases e : x = n
  · subst e
    rw [hfr, if_neg (by omega), if_pos rfl, if_pos (by omega), if_pos rfl, if_pos (by omega)]
    exact ⟨rfl, rfl⟩
  · have h4 := h3 x (by omega)
    generalize (if x < C then (1 : Int) else 2) = fx at h4 ⊢
    rw [if_neg (by omega), if_neg (by omega), if_neg (by omega), if_neg (by omega)]
    exact h4
theorem SRow.slots (h : SRow w vb C (C + 1)) : Slots w vb C := by
  obtain ⟨cur, h1, _, h3⟩ := h
  exact fun x hx => ⟨(cell_of_row _ _ _ _ _ _ h1).trans (h3 x (by omega)).1, (cell_of_row _ _ _ _ _ _ h1).trans (h3 x (by omega)).2⟩
theorem SRow.made (w : World) (C : Nat) : SRow (w.alloc (.cells (madeCells #[.int .i64 0, .int .i64 0] ((C + 1) * 2)) 28)) w.heap.size C 0 :=
  ⟨_, heap_alloc_new _ _, size_madeCells _ _, fun x hx => by omega⟩
end

/-- The plan. -/
structure PS (w w1 : World) (C nb vb pb : Nat) (nm : Nat → ByteArray) : Prop where
  below : Below w.heap.size w w1
  p0 : w1.cell? ⟨pb, 0, none⟩ = some (.int .i64 2)
  p1 : w1.cell? ⟨pb, 1, none⟩ = some (.slice (some ⟨nb, 0, none⟩) (C + 1) 5)
  p5 : w1.cell? ⟨pb, 5, none⟩ = some (.slice (some ⟨vb, 0, none⟩) (C + 1) (C + 1))
  p6 : w1.cell? ⟨pb, 6, none⟩ = some (.int .i64 0)
  slots : Slots w1 vb C
  names : ∀ x, x ≤ C → w1.cell? ⟨nb, x, none⟩ = some (.string (nm x))
  lt : pb < w1.heap.size ∧ nb < w1.heap.size ∧ vb < w1.heap.size

/-- The replica, and start. -/
structure QS (w1 w2 : World) (N C pb rb eb cb ib lb sb : Nat) (st cl : Nat → Int) (inn : Nat → Bool) : Prop where
  below : Below w1.heap.size w1 w2
  r0 : w2.cell? ⟨rb, 0, none⟩ = some (.pointer (some ⟨pb, 0, none⟩))
  r1 : w2.cell? ⟨rb, 1, none⟩ = some (.int .i64 1)
  r2 : w2.cell? ⟨rb, 2, none⟩ = some (.slice (some ⟨eb, 0, none⟩) (C + 1) (C + 1))
  r4 : w2.cell? ⟨rb, 4, none⟩ = some (.slice none 0 0)
  r5 : w2.cell? ⟨rb, 5, none⟩ = some (.pointer (some ⟨cb, 0, none⟩))
  rf : ∀ j, w2.frozen? ⟨rb, j, none⟩ = false
  cells : w2.rowIs eb 2 (C + 1) (fun c => .int .i64 (cl c))
  c0 : w2.cell? ⟨cb, 0, none⟩ = some (.int .i64 0)
  c1 : w2.cell? ⟨cb, 1, none⟩ = some (.slice (some ⟨ib, 0, none⟩) N N)
  c6 : w2.cell? ⟨cb, 6, none⟩ = some (.slice (some ⟨lb, 0, none⟩) N N)
  inn : w2.rowIs ib 4 N (fun n => .bool (inn n))
  lost : w2.rowIs lb 4 N (fun _ => .bool false)
  start : w2.rowIs sb 2 (C + 1) (fun c => .int .i64 (st c))
  ge : w1.heap.size ≤ rb ∧ w1.heap.size ≤ eb ∧ w1.heap.size ≤ cb ∧ w1.heap.size ≤ ib ∧ w1.heap.size ≤ lb ∧ w1.heap.size ≤ sb
  lt : rb < w2.heap.size ∧ cb < w2.heap.size
  nr : rb ≠ eb ∧ rb ≠ cb ∧ rb ≠ ib ∧ rb ≠ lb ∧ rb ≠ sb
  ne : eb ≠ cb ∧ eb ≠ ib ∧ eb ≠ lb ∧ eb ≠ sb
  nc : cb ≠ ib ∧ cb ≠ lb ∧ ib ≠ lb ∧ cb ≠ sb ∧ ib ≠ sb ∧ lb ≠ sb
section
variable {w1 w2 w3 : World} {N C pb rb eb cb ib lb sb : Nat} {st cl : Nat → Int} {inn : Nat → Bool}
theorem QS.of_rs (h : RS w1 w2 N C pb rb eb cb ib lb) : QS w1 (w2.alloc (.cells (madeCells #[.int .i64 0] (C + 1)) 2)) N C pb rb eb cb ib lb w2.heap.size (fun _ => 0) (fun _ => 0) (fun _ => true) := by
  have lc : cb < w2.heap.size := by simpa using World.block_lt_of_cell? _ _ h.c0
  have le := h.cells.lt
  have li := h.inn.lt
  have ll := h.lost.lt
  have lr := h.lt
  have hs := h.below.size
  obtain ⟨g1, g2, g3, g4, g5⟩ := h.ge
  obtain ⟨n1, n2, n3, n4⟩ := h.nr
  obtain ⟨m1, m2, m3⟩ := h.ne
  obtain ⟨k1, k2, k3⟩ := h.nc
  exact ⟨h.below.alloc hs _, (World.cell?_alloc_past _ _ _ lr).trans h.r0, (World.cell?_alloc_past _ _ _ lr).trans h.r1, (World.cell?_alloc_past _ _ _ lr).trans h.r2, (World.cell?_alloc_past _ _ _ lr).trans h.r4, (World.cell?_alloc_past _ _ _ lr).trans h.r5,
    fun j => (World.frozen?_of_block (a := ⟨rb, j, none⟩) (Below.heap_alloc _ _ _ lr)).trans (h.rf j), h.cells.alloc _, (World.cell?_alloc_past _ _ _ lc).trans h.c0, (World.cell?_alloc_past _ _ _ lc).trans h.c1, (World.cell?_alloc_past _ _ _ lc).trans h.c6, h.inn.alloc _, h.lost.alloc _, World.rowIs_made _ _ _ _,
    ⟨g1, g2, g3, g4, g5, hs⟩, by simp; omega, ⟨n1, n2, n3, n4, by omega⟩, ⟨m1, m2, m3, by omega⟩, ⟨k1, k2, k3, by omega, by omega, by omega⟩⟩
theorem QS.turn (h : QS w1 w2 N C pb rb eb cb ib lb sb st cl inn) {st' cl' : Nat → Int} {inn' : Nat → Bool} (hb : Below w1.heap.size w1 w3) (hs : w2.heap.size ≤ w3.heap.size) (hr : w3.heap[rb]? = w2.heap[rb]?) (hc : w3.heap[cb]? = w2.heap[cb]?) (hl : w3.heap[lb]? = w2.heap[lb]?)
    (h1 : w3.rowIs eb 2 (C + 1) (fun c => .int .i64 (cl' c))) (h2 : w3.rowIs ib 4 N (fun n => .bool (inn' n))) (h3 : w3.rowIs sb 2 (C + 1) (fun c => .int .i64 (st' c))) : QS w1 w3 N C pb rb eb cb ib lb sb st' cl' inn' := by
  have R : ∀ j, w3.cell? ⟨rb, j, none⟩ = w2.cell? ⟨rb, j, none⟩ := fun j => World.cell?_of_block (a := ⟨rb, j, none⟩) hr
  have K : ∀ j, w3.cell? ⟨cb, j, none⟩ = w2.cell? ⟨cb, j, none⟩ := fun j => World.cell?_of_block (a := ⟨cb, j, none⟩) hc
  exact ⟨hb, (R _).trans h.r0, (R _).trans h.r1, (R _).trans h.r2, (R _).trans h.r4, (R _).trans h.r5, fun j => (World.frozen?_of_block (a := ⟨rb, j, none⟩) hr).trans (h.rf j), h1, (K _).trans h.c0, (K _).trans h.c1, (K _).trans h.c6, h2, h.lost.of_block hl, h3, h.ge, ⟨Nat.lt_of_lt_of_le h.lt.1 hs, Nat.lt_of_lt_of_le h.lt.2 hs⟩, h.nr, h.ne, h.nc⟩
theorem QS.later (h : QS w1 w2 N C pb rb eb cb ib lb sb st cl inn) (hb : Below w2.heap.size w2 w3) : QS w1 w3 N C pb rb eb cb ib lb sb st cl inn :=
  h.turn (h.below.trans (hb.mono h.below.size)) hb.size (hb.block _ h.lt.1) (hb.block _ h.lt.2) (hb.block _ h.lost.lt) (h.cells.of_block (hb.block _ h.cells.lt)) (h.inn.of_block (hb.block _ h.inn.lt)) (h.start.of_block (hb.block _ h.start.lt))
theorem QS.setS (h : QS w1 w2 N C pb rb eb cb ib lb sb st cl inn) (c : Nat) (v : Int) : QS w1 (w2.setCell ⟨sb, c, none⟩ (.int .i64 v)) N C pb rb eb cb ib lb sb (fun x => if x = c then v else st x) cl inn := by
  obtain ⟨n1, n2, n3, n4, n5⟩ := h.nr
  obtain ⟨m1, m2, m3, m4⟩ := h.ne
  obtain ⟨k1, k2, k3, k4, k5, k6⟩ := h.nc
  exact h.turn (h.below.setCell h.ge.2.2.2.2.2 _) (by simp) (heap_setCell_other _ _ _ _ n5) (heap_setCell_other _ _ _ _ k4) (heap_setCell_other _ _ _ _ k6) (h.cells.setOther m4 _) (h.inn.setOther k5 _) ((h.start.set c _).congr (fun i _ => by split <;> rfl))
theorem QS.setE (h : QS w1 w2 N C pb rb eb cb ib lb sb st cl inn) (c : Nat) (v : Int) : QS w1 (w2.setCell ⟨eb, c, none⟩ (.int .i64 v)) N C pb rb eb cb ib lb sb st (fun x => if x = c then v else cl x) inn := by
  obtain ⟨n1, n2, n3, n4, n5⟩ := h.nr
  obtain ⟨m1, m2, m3, m4⟩ := h.ne
  exact h.turn (h.below.setCell h.ge.2.1 _) (by simp) (heap_setCell_other _ _ _ _ n1) (heap_setCell_other _ _ _ _ (Ne.symm m1)) (heap_setCell_other _ _ _ _ (Ne.symm m3)) ((h.cells.set c _).congr (fun i _ => by split <;> rfl)) (h.inn.setOther (Ne.symm m2) _) (h.start.setOther (Ne.symm m4) _)
theorem QS.setI (h : QS w1 w2 N C pb rb eb cb ib lb sb st cl inn) (c : Nat) (v : Bool) : QS w1 (w2.setCell ⟨ib, c, none⟩ (.bool v)) N C pb rb eb cb ib lb sb st cl (fun x => if x = c then v else inn x) := by
  obtain ⟨n1, n2, n3, n4, n5⟩ := h.nr
  obtain ⟨m1, m2, m3, m4⟩ := h.ne
  obtain ⟨k1, k2, k3, k4, k5, k6⟩ := h.nc
  exact h.turn (h.below.setCell h.ge.2.2.2.1 _) (by simp) (heap_setCell_other _ _ _ _ n3) (heap_setCell_other _ _ _ _ k1) (heap_setCell_other _ _ _ _ (Ne.symm k3)) (h.cells.setOther m2 _) ((h.inn.set c _).congr (fun i _ => by split <;> rfl)) (h.start.setOther (Ne.symm k5) _)
end

/-- A row of L reports. -/
def KRow (w : World) (b L : Nat) (f : Nat → Rp) : Prop := ∃ cur : Array Value, w.heap[b]? = some (.cells cur 49 (0, 0)) ∧ cur.size = L * 2 ∧ ∀ x : Nat, x < L → cur[x * 2]? = some (Value.int .i64 (f x).v) ∧ cur[x * 2 + 1]? = some (Value.bool (f x).p)
def upd {α : Type} (f : Nat → α) (n : Nat) (v : α) : Nat → α := fun x => if x = n then v else f x
theorem upd_same {α : Type} (f : Nat → α) (n : Nat) (v : α) : upd f n v n = v := if_pos rfl
theorem upd_other {α : Type} (f : Nat → α) {n x : Nat} (v : α) (h : x ≠ n) : upd f n v x = f x := if_neg h
section
variable {w w1 : World} {b L : Nat} {f : Nat → Rp}
theorem KRow.lt (h : KRow w b L f) : b < w.heap.size := by obtain ⟨c, hc, _⟩ := h; exact lt_of_block hc
theorem KRow.of_block (h : KRow w b L f) (e : w1.heap[b]? = w.heap[b]?) : KRow w1 b L f := by obtain ⟨c, hc, r⟩ := h; exact ⟨c, e.trans hc, r⟩
theorem KRow.at (h : KRow w b L f) : RpsAt w b L f := by
  obtain ⟨cur, h1, _, h3⟩ := h
  exact fun x hx => ⟨(cell_of_row _ _ _ _ _ _ h1).trans (h3 x hx).1, (cell_of_row _ _ _ _ _ _ h1).trans (h3 x hx).2⟩
theorem KRow.free (h : KRow w b L f) (j : Nat) : w.frozen? ⟨b, j, none⟩ = false := by
  obtain ⟨cur, hb, hn, _⟩ := h; exact frozen_of_row _ _ _ _ _ hb
theorem KRow.set (h : KRow w b L f) (n : Nat) (hn : n < L) (r : Rp) : KRow ((w.setCell ⟨b, n * 2, none⟩ (.int .i64 r.v)).setCell ⟨b, n * 2 + 1, none⟩ (.bool r.p)) b L (upd f n r) := by
  obtain ⟨cur, h1, h2, h3⟩ := h
  refine ⟨(cur.setIfInBounds (n * 2) (.int .i64 r.v)).setIfInBounds (n * 2 + 1) (.bool r.p), heap_setCell_same _ _ _ _ _ _ (heap_setCell_same _ _ _ _ _ _ h1), by simpa using h2, fun x hx => ?_⟩
  simp only [Array.getElem?_setIfInBounds, Array.size_setIfInBounds]
  by_cases e : x = n
  · subst e
    rw [if_neg (by omega), if_pos rfl, if_pos (by omega), if_pos rfl, if_pos (by omega), upd_same]
    exact ⟨rfl, rfl⟩
  · rw [if_neg (by omega), if_neg (by omega), if_neg (by omega), if_neg (by omega), upd_other _ _ e]
    exact h3 x hx
theorem made2_at (L : Nat) : ∀ x, x < L → (madeCells #[.int .i64 0, .bool false] (L * 2))[x * 2]? = some (Value.int .i64 0) ∧ (madeCells #[.int .i64 0, .bool false] (L * 2))[x * 2 + 1]? = some (Value.bool false) := by
  intro x hx
  have e1 : x * 2 % 2 = 0 := by omega
  have e2 : (x * 2 + 1) % 2 = 1 := by omega
  constructor
  · simp [madeCells, e1, show x * 2 < L * 2 by omega]
  · simp [madeCells, e2, show x * 2 + 1 < L * 2 by omega]
theorem KRow.made (w : World) (L : Nat) : KRow (w.alloc (.cells (madeCells #[.int .i64 0, .bool false] (L * 2)) 49)) w.heap.size L (fun _ => ⟨0, false⟩) :=
  ⟨_, heap_alloc_new _ _, size_madeCells _ _, made2_at L⟩
end

/-- The ballots and the counters so far. -/
structure BS (w4 wr : World) (N C bb kb m : Nat) (bl : Nat → Nat) (bal : Nat → Nat → Rp) (ctr : Nat → Rp) : Prop where
  gb : GB [bb, kb] w4 wr
  ba : ∃ bv, wr.rowIs bb 38 N bv ∧ ∀ n, n < m → bv n = .slice (some ⟨bl n, 0, none⟩) C C
  row : ∀ n, n < m → KRow wr (bl n) C (bal n) ∧ w4.heap.size ≤ bl n
  kr : KRow wr kb N ctr
  ne : bb ≠ kb
  lt : bb < w4.heap.size ∧ kb < w4.heap.size
section
variable {w4 wr w1 : World} {N C bb kb m : Nat} {bl : Nat → Nat} {bal : Nat → Nat → Rp} {ctr : Nat → Rp}
theorem BS.later (h : BS w4 wr N C bb kb m bl bal ctr) (hb : Below wr.heap.size wr w1) : BS w4 w1 N C bb kb m bl bal ctr := by
  obtain ⟨bv, h1, h2⟩ := h.ba
  exact ⟨h.gb.below hb, ⟨bv, h1.of_block (hb.block _ h1.lt), h2⟩, fun n hn => ⟨(h.row n hn).1.of_block (hb.block _ (h.row n hn).1.lt), (h.row n hn).2⟩, h.kr.of_block (hb.block _ h.kr.lt), h.ne, h.lt⟩
theorem BS.setB (h : BS w4 wr N C bb kb m bl bal ctr) {q : Nat} {f : Nat → Rp} (hq : KRow wr q C f) (hge : w4.heap.size ≤ q) : BS w4 (wr.setCell ⟨bb, m, none⟩ (.slice (some ⟨q, 0, none⟩) C C)) N C bb kb (m + 1) (upd bl m q) (upd bal m f) ctr := by
  obtain ⟨bv, h1, h2⟩ := h.ba
  have hlt := h.lt
  refine ⟨h.gb.set (by simp) _ _, ⟨_, h1.set m _, fun n hn => ?_⟩, fun n hn => ?_, h.kr.of_block (heap_setCell_other _ _ _ _ (Ne.symm h.ne)), h.ne, h.lt⟩
  · by_cases e : n = m
    · subst e; rw [upd_same]; exact if_pos rfl
    · rw [upd_other _ _ e]; simp only [if_neg e]; exact h2 n (by omega)
  · by_cases e : n = m
    · subst e; rw [upd_same, upd_same]; exact ⟨hq.of_block (heap_setCell_other _ _ _ _ (Nat.ne_of_gt (Nat.lt_of_lt_of_le hlt.1 hge))), hge⟩
    · rw [upd_other _ _ e, upd_other _ _ e]
      obtain ⟨r1, r2⟩ := h.row n (by omega)
      exact ⟨r1.of_block (heap_setCell_other _ _ _ _ (Nat.ne_of_gt (Nat.lt_of_lt_of_le hlt.1 r2))), r2⟩
theorem BS.setK (h : BS w4 wr N C bb kb m bl bal ctr) (n : Nat) (hn : n < N) (r : Rp) : BS w4 ((wr.setCell ⟨kb, n * 2, none⟩ (.int .i64 r.v)).setCell ⟨kb, n * 2 + 1, none⟩ (.bool r.p)) N C bb kb m bl bal (upd ctr n r) := by
  obtain ⟨bv, h1, h2⟩ := h.ba
  have hlt := h.lt
  refine ⟨(h.gb.set (by simp) _ _).set (by simp) _ _, ⟨bv, (h1.setOther h.ne _).setOther h.ne _, h2⟩, fun x hx => ?_, h.kr.set n hn r, h.ne, h.lt⟩
  obtain ⟨r1, r2⟩ := h.row x hx
  exact ⟨r1.of_block ((heap_setCell_other _ _ _ _ (Nat.ne_of_gt (Nat.lt_of_lt_of_le hlt.2 r2))).trans (heap_setCell_other _ _ _ _ (Nat.ne_of_gt (Nat.lt_of_lt_of_le hlt.2 r2)))), r2⟩
end

/-- All is laid: what voteCells wants. -/
structure All (w w5 : World) (N C nb vb pb rb eb cb ib lb sb bb kb fb : Nat) (nm : Nat → ByteArray) (st : Nat → Int) (inn : Nat → Bool) (bl : Nat → Nat) (bal : Nat → Nat → Rp) (ctr : Nat → Rp) : Prop where
  below : Below w.heap.size w w5
  im : VIm w5 [rb, eb, lb, fb] N C pb nb 5 vb (C + 1) cb ib lb bb kb bl inn ctr bal nm
  vm : VM w5 w5 N C rb pb eb cb lb fb st (fun _ => false) [preS] (.slice none 0 0) []
  start : ∀ c, c < C + 1 → w5.cell? ⟨sb, c, none⟩ = some (.int .i64 (st c))
  sn : sb < w5.heap.size ∧ sb ∉ [rb, eb, lb, fb]
  ge : w.heap.size ≤ rb ∧ w.heap.size ≤ eb ∧ w.heap.size ≤ lb ∧ w.heap.size ≤ fb

theorem all_of {w w1 w3 w4 wr : World} {N C nb vb pb rb eb cb ib lb sb bb kb : Nat} {nm : Nat → ByteArray} {st : Nat → Int} {inn : Nat → Bool} {bl : Nat → Nat} {bal : Nat → Nat → Rp} {ctr : Nat → Rp}
    (hP : PS w w1 C nb vb pb nm) (hQ : QS w1 w3 N C pb rb eb cb ib lb sb st st inn) (h34 : Below w3.heap.size w3 w4) (hbb : w3.heap.size ≤ bb) (hkb : w3.heap.size ≤ kb) (hB : BS w4 wr N C bb kb N bl bal ctr) :
    All w (wr.alloc (.cells ((madeCells #[.string ⟨#[]⟩] 8).setIfInBounds 0 (.string preS)) 9)) N C nb vb pb rb eb cb ib lb sb bb kb wr.heap.size nm st inn bl bal ctr := by
  have z1 := hP.below.size
  have z2 := hQ.below.size
  have z3 := h34.size
  have z4 := hB.gb.size
  obtain ⟨l1, l2, l3⟩ := hP.lt
  obtain ⟨g1, g2, g3, g4, g5, g6⟩ := hQ.ge
  obtain ⟨n1, n2, n3, n4, n5⟩ := hQ.nr
  obtain ⟨m1, m2, m3, m4⟩ := hQ.ne
  obtain ⟨k1, k2, k3, k4, k5, k6⟩ := hQ.nc
  obtain ⟨lr, lc⟩ := hQ.lt
  have le := hQ.cells.lt
  have li := hQ.inn.lt
  have ll := hQ.lost.lt
  have ls := hQ.start.lt
  obtain ⟨b1, b2⟩ := hB.lt
  have hrow := hB.row
  obtain ⟨bv, v1, v2⟩ := hB.ba
  generalize hw5 : wr.alloc (.cells ((madeCells #[.string ⟨#[]⟩] 8).setIfInBounds 0 (.string preS)) 9) = w5
  have hr5 : ∀ k, k < wr.heap.size → w5.heap[k]? = wr.heap[k]? := fun k hk => by
    rw [← hw5]; exact Below.heap_alloc _ _ _ hk
  have h3r : ∀ k, k < w3.heap.size → w5.heap[k]? = w3.heap[k]? := fun k hk => by
    rw [hr5 k (by omega), hB.gb.block k (by omega) (by simp; omega), h34.block k hk]
  have h1r : ∀ k, k < w1.heap.size → w5.heap[k]? = w1.heap[k]? := fun k hk => by
    rw [h3r k (by omega), hQ.below.block k hk]
  have s5 : w5.heap.size = wr.heap.size + 1 := by rw [← hw5]; simp
  have c1 : ∀ b j, b < w1.heap.size → w5.cell? ⟨b, j, none⟩ = w1.cell? ⟨b, j, none⟩ := fun b j hb => World.cell?_of_block (a := ⟨b, j, none⟩) (h1r b hb)
  have c3 : ∀ b j, b < w3.heap.size → w5.cell? ⟨b, j, none⟩ = w3.cell? ⟨b, j, none⟩ := fun b j hb => World.cell?_of_block (a := ⟨b, j, none⟩) (h3r b hb)
  have c5 : ∀ b j, b < wr.heap.size → w5.cell? ⟨b, j, none⟩ = wr.cell? ⟨b, j, none⟩ := fun b j hb => World.cell?_of_block (a := ⟨b, j, none⟩) (hr5 b hb)
  have hbel : Below w.heap.size w w5 := by
    have e1 : Below w.heap.size w w4 := (hP.below.trans (hQ.below.mono z1)).trans (h34.mono (by omega))
    have e2 : Below w.heap.size w wr := hB.gb.to_below e1 (by omega) (fun b hb => by simp at hb; omega)
    exact e2.trans ⟨by rw [← hw5]; rfl, by rw [← hw5]; rfl, by rw [← hw5]; rfl, by omega, fun k hk => hr5 k (by omega)⟩
  have hfail : FRow w5 wr.heap.size [preS] := by
    refine ⟨(madeCells #[.string ⟨#[]⟩] 8).setIfInBounds 0 (.string preS), ?_, by simp [size_madeCells], fun x u hx => ?_⟩
    · rw [← hw5]; exact heap_alloc_new _ _
    · cases x with
      | zero => simp at hx; subst hx; simp [size_madeCells]
      | succ x => simp at hx
  refine ⟨hbel, ?_, ?_, fun c hc => (c3 _ _ ls).trans (hQ.start.cell hc), ⟨by omega, by simp; omega⟩, ⟨by omega, by omega, by omega, by omega⟩⟩
  · refine ⟨(c1 _ _ l1).trans hP.p1, (c1 _ _ l1).trans hP.p5, fun x hx => ⟨(c1 _ _ l3).trans (hP.slots x hx).1, (c1 _ _ l3).trans (hP.slots x hx).2⟩, fun x hx => (c1 _ _ l2).trans (hP.names x hx), (c3 _ _ lc).trans hQ.c0, (c3 _ _ lc).trans hQ.c1, (c3 _ _ lc).trans hQ.c6, hQ.inn.of_block (h3r _ li),
      fun n hn => (c5 _ _ v1.lt).trans ((v1.cell hn).trans (by rw [v2 n hn])), fun n hn => ((hrow n hn).1.of_block (hr5 _ (hrow n hn).1.lt)).at, (hB.kr.of_block (hr5 _ hB.kr.lt)).at, ?_⟩
    rintro b (rfl | rfl | rfl | rfl | rfl | rfl | rfl | ⟨n, hn, rfl⟩)
    all_goals first
      | (have q1 := (hrow n hn).1.lt; have q2 := (hrow n hn).2; exact ⟨by omega, by simp; omega⟩)
      | exact ⟨by omega, by simp; omega⟩
  · exact ⟨GB.refl _ _, (c3 _ _ lr).trans hQ.r0, (c3 _ _ lr).trans hQ.r1, (c3 _ _ lr).trans hQ.r2, (c3 _ _ lr).trans hQ.r4, (c3 _ _ lr).trans hQ.r5, fun j => (World.frozen?_of_block (a := ⟨rb, j, none⟩) (h3r _ lr)).trans (hQ.rf j), hQ.cells.of_block (h3r _ le), hQ.lost.of_block (h3r _ ll), hfail,
      ⟨by simp [rpCells], .inl ⟨rfl, rfl⟩⟩, ⟨by omega, by omega, by omega, by omega⟩, ⟨n1, n4, by omega, m3, by omega, by omega⟩⟩

/-- Behind voteCells. -/
theorem all_after {w w5 w3 w6 : World} {N C nb vb pb rb eb cb ib lb sb bb kb fb : Nat} {nm : Nat → ByteArray} {st cl : Nat → Int} {inn lo : Nat → Bool} {bl : Nat → Nat} {bal : Nat → Nat → Rp} {ctr : Nat → Rp} {fl : List ByteArray} {dv : Value} {l : List Rp} (h : All w w5 N C nb vb pb rb eb cb ib lb sb bb kb fb nm st inn bl bal ctr)
    (hb : Below w5.heap.size w5 w3) (hV : VM w3 w6 N C rb pb eb cb lb fb cl lo fl dv l) :
    Below w.heap.size w w6 ∧ VIm w6 [rb, eb, lb, fb] N C pb nb 5 vb (C + 1) cb ib lb bb kb bl inn ctr bal nm ∧ (∀ c, c < C + 1 → w6.cell? ⟨sb, c, none⟩ = some (.int .i64 (st c))) := by
  have g : GB [rb, eb, lb, fb] w5 w6 := (GB.of_below hb).trans hV.gb
  obtain ⟨g1, g2, g3, g4⟩ := h.ge
  exact ⟨g.to_below h.below h.below.size (fun b hb => by simp at hb; omega), h.im.keep g, fun c hc => (g.cell (p := ⟨sb, c, none⟩) h.sn.1 h.sn.2).trans (h.start c hc)⟩
end Go.Proofs.Ybulkbbgw.Vo
