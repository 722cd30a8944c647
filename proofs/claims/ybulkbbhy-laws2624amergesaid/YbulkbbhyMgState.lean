/-
  What lies in memory: the segments with their directories; the struct mergedLists. (*segment).entries and .entry over that.
-/
import Derived.Test.YbulkbbhyMgSeg
import Derived.Test.YbulkbbhyMgHeap
namespace Go.Proofs.Ybulkbbhy.Mg
open Go.RowKit

/-- The segments: S of them in block SB, ten cells each; segment s's directory in block DB s, n s entries of 20 bytes. -/
structure SegsAt (w : World) (SB S : Nat) (n DB : Nat → Nat) (key cnt : Nat → Nat → Nat) : Prop where
  c7 : ∀ s, s < S → w.cell? ⟨SB, s * 10 + 7, none⟩ = some (.int .u64 0)
  c8 : ∀ s, s < S → w.cell? ⟨SB, s * 10 + 8, none⟩ = some (.int .u64 0)
  c9 : ∀ s, s < S → w.cell? ⟨SB, s * 10 + 9, none⟩ = some (.slice (some ⟨DB s, 0, none⟩) (n s * 20) (n s * 20))
  bk : ∀ s, s < S → ∀ i, i < n s → BytesAt w (DB s) (i * 20) (Lib.leBytes 8 (key s i))
  bi : ∀ s, s < S → ∀ i, i < n s → BytesAt w (DB s) (i * 20 + 8) (Lib.leBytes 8 i)
  bc : ∀ s, s < S → ∀ i, i < n s → BytesAt w (DB s) (i * 20 + 16) (Lib.leBytes 4 (cnt s i))
  lt : ∀ s, s < S → DB s < w.heap.size
  sb : SB < w.heap.size

/-- What is known of the numbers. -/
structure Nums (S : Nat) (n : Nat → Nat) (key cnt : Nat → Nat → Nat) : Prop where
  hn : ∀ s, s < S → n s ≤ 100000
  hk : ∀ s i, s < S → i < n s → key s i < 256 ^ 8
  hc : ∀ s i, s < S → i < n s → cnt s i < 256 ^ 4
  up : ∀ s i j, s < S → i < j → j < n s → key s i < key s j

variable {w w' : World} {SB S : Nat} {n DB : Nat → Nat} {key cnt : Nat → Nat → Nat}

theorem SegsAt.below {B : Nat} (h : SegsAt w SB S n DB key cnt) (hb : Below B w w') (hSB : SB < B) (hDB : ∀ s, s < S → DB s < B) : SegsAt w' SB S n DB key cnt where
  c7 := fun s hs => (hb.cell (p := ⟨SB, s * 10 + 7, none⟩) hSB).trans (h.c7 s hs)
  c8 := fun s hs => (hb.cell (p := ⟨SB, s * 10 + 8, none⟩) hSB).trans (h.c8 s hs)
  c9 := fun s hs => (hb.cell (p := ⟨SB, s * 10 + 9, none⟩) hSB).trans (h.c9 s hs)
  bk := fun s hs i hi => (h.bk s hs i hi).below hb (hDB s hs)
  bi := fun s hs i hi => (h.bi s hs i hi).below hb (hDB s hs)
  bc := fun s hs i hi => (h.bc s hs i hi).below hb (hDB s hs)
  lt := fun s hs => Nat.lt_of_lt_of_le (h.lt s hs) hb.size
  sb := Nat.lt_of_lt_of_le h.sb hb.size

theorem SegsAt.later (h : SegsAt w SB S n DB key cnt) (hb : Below w.heap.size w w') : SegsAt w' SB S n DB key cnt := h.below hb h.sb h.lt

/-- (*segment).entries. -/
theorem segEntries (h : SegsAt w SB S n DB key cnt) (hN : Nums S n key cnt) (s : Nat) (hs : s < S) :
    Calls Yba.prog 13 #[.pointer (some ⟨SB, s * 10, none⟩)] w fun e w' => e = .returned (.int .i64 (n s)) ∧ w = w' :=
  entries_any SB (s * 10) (n s) _ _ w (hN.hn s hs) (h.c9 s hs)

/-- (*segment).entry. -/
theorem segEntry (h : SegsAt w SB S n DB key cnt) (hN : Nums S n key cnt) (s i : Nat) (hs : s < S) (hi : i < n s) :
    Calls Yba.prog 14 #[.pointer (some ⟨SB, s * 10, none⟩), .int .i64 i] w fun e w' => (∃ y : Int, e = .returned (.agg #[.int .u64 (key s i), .int .u64 i, .int .u64 y, .int .u32 (cnt s i)])) ∧ Below w.heap.size w w' := by
  by_cases hl : i + 1 = n s
  · exact (entry_last SB (s * 10) (DB s) (n s) i (key s i) (cnt s i) w hl (hN.hn s hs) (hN.hk s i hs hi) (hN.hc s i hs hi) (h.c7 s hs) (h.c8 s hs) (h.c9 s hs) (h.bk s hs i hi) (h.bi s hs i hi) (h.bc s hs i hi) h.sb (h.lt s hs)).mono fun e w' ⟨h1, h2⟩ => ⟨⟨_, h1⟩, h2⟩
  · have hE := h.bi s hs (i + 1) (by omega)
    rw [show (i + 1) * 20 + 8 = i * 20 + 28 by omega] at hE
    exact (entry_mid SB (s * 10) (DB s) (n s) i (key s i) (cnt s i) w (by omega) (hN.hn s hs) (hN.hk s i hs hi) (hN.hc s i hs hi) (h.c7 s hs) (h.c8 s hs) (h.c9 s hs) (h.bk s hs i hi) (h.bi s hs i hi) (h.bc s hs i hi) hE h.sb (h.lt s hs)).mono fun e w' ⟨h1, h2⟩ => ⟨⟨_, h1⟩, h2⟩

/-! ### mergedLists -/
def mlRest : Array Value := #[.int .u64 0, .slice none 0 0, .slice none 0 0, .int .u64 0, .int .u64 0, .int .u64 0, .int .u64 0, .int .u64 0, .int .u64 0, .int .u64 0, .int .u32 0, .bool false] ++ Array.replicate 512 (.int .u32 0)
def mlArr (a b c d : Value) : Array Value := #[a, b, c, d] ++ mlRest

theorem zero52 (w : World) : (zeroValue 52).run Yba.prog w = .ok (.agg (mlArr (.slice none 0 0) (.slice none 0 0) (.slice none 0 0) (.int .u32 0))) w := by kernel_rfl
theorem mlArr_ne (a b c d : Value) : (mlArr a b c d = #[]) = False := by
  simp [mlArr]
theorem mlArr_set0 (a b c d v : Value) : (mlArr a b c d).setIfInBounds 0 v = mlArr v b c d := by
  unfold mlArr
  rw [Array.setIfInBounds_append_left (by simp)]
  rfl
theorem mlArr_set1 (a b c d v : Value) : (mlArr a b c d).setIfInBounds 1 v = mlArr a v c d := by
  unfold mlArr
  rw [Array.setIfInBounds_append_left (by simp)]
  rfl
theorem mlArr_set2 (a b c d v : Value) : (mlArr a b c d).setIfInBounds 2 v = mlArr a b v d := by
  unfold mlArr
  rw [Array.setIfInBounds_append_left (by simp)]
  rfl
theorem mlArr_set3 (a b c d v : Value) : (mlArr a b c d).setIfInBounds 3 v = mlArr a b c v := by
  unfold mlArr
  rw [Array.setIfInBounds_append_left (by simp)]
  rfl
theorem mlArr_0 (a b c d : Value) : (mlArr a b c d)[0]? = some a := by
  unfold mlArr; rw [Array.getElem?_append_left (by simp)]; rfl
theorem mlArr_1 (a b c d : Value) : (mlArr a b c d)[1]? = some b := by
  unfold mlArr; rw [Array.getElem?_append_left (by simp)]; rfl
theorem mlArr_2 (a b c d : Value) : (mlArr a b c d)[2]? = some c := by
  unfold mlArr; rw [Array.getElem?_append_left (by simp)]; rfl
theorem mlArr_3 (a b c d : Value) : (mlArr a b c d)[3]? = some d := by
  unfold mlArr; rw [Array.getElem?_append_left (by simp)]; rfl

/-- The struct mergedLists in block MB. -/
def MAt (w : World) (MB : Nat) (a b c d : Value) : Prop := w.heap[MB]? = some (.cells (mlArr a b c d) 52 (0, 0))
variable {MB : Nat} {a b c d : Value}
theorem MAt.c0 (h : MAt w MB a b c d) : w.cell? ⟨MB, 0, none⟩ = some a := by rw [cell_of_row _ _ _ _ _ _ h]; exact mlArr_0 _ _ _ _
theorem MAt.c1 (h : MAt w MB a b c d) : w.cell? ⟨MB, 1, none⟩ = some b := by rw [cell_of_row _ _ _ _ _ _ h]; exact mlArr_1 _ _ _ _
theorem MAt.c2 (h : MAt w MB a b c d) : w.cell? ⟨MB, 2, none⟩ = some c := by rw [cell_of_row _ _ _ _ _ _ h]; exact mlArr_2 _ _ _ _
theorem MAt.c3 (h : MAt w MB a b c d) : w.cell? ⟨MB, 3, none⟩ = some d := by rw [cell_of_row _ _ _ _ _ _ h]; exact mlArr_3 _ _ _ _
theorem MAt.free (h : MAt w MB a b c d) (j : Nat) : w.frozen? ⟨MB, j, none⟩ = false := frozen_of_row _ _ _ _ _ h
theorem MAt.lt (h : MAt w MB a b c d) : MB < w.heap.size := lt_of_block h
theorem MAt.set1 (h : MAt w MB a b c d) (v : Value) : MAt (w.setCell ⟨MB, 1, none⟩ v) MB a v c d := (heap_setCell_same _ _ _ _ _ _ h).trans (by rw [mlArr_set1])
theorem MAt.set2 (h : MAt w MB a b c d) (v : Value) : MAt (w.setCell ⟨MB, 2, none⟩ v) MB a b v d := (heap_setCell_same _ _ _ _ _ _ h).trans (by rw [mlArr_set2])
theorem MAt.set3 (h : MAt w MB a b c d) (v : Value) : MAt (w.setCell ⟨MB, 3, none⟩ v) MB a b c v := (heap_setCell_same _ _ _ _ _ _ h).trans (by rw [mlArr_set3])
theorem MAt.of_block (h : MAt w MB a b c d) (e : w'.heap[MB]? = w.heap[MB]?) : MAt w' MB a b c d := e.trans h

end Go.Proofs.Ybulkbbhy.Mg
