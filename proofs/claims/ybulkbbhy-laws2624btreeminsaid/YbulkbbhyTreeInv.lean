/-
  THE MEMORY that trigrove.LawS2624BTreeMin builds: a row of pointers, a block a node, a row of children a node (its own, moved when it grows). What each step of the law's loop does to it: no walk here.
-/
import Derived.Test.YbulkbbhyTreeSl
import Derived.Deep.OwnRows
import Derived.OneCell
import Derived.Laws.Rows
namespace Go.Proofs.Ybulkbbhy.Tree
open Go.RowKit

def nodeArr (op mn mx : Int) (sv : Value) : Array Value :=
  #[.int .u8 op, .int .u16 0, sv, .pointer none, .slice none 0 0, .int .i32 0, .int .i32 0, .int .i64 mn, .int .i64 mx, .int .i64 0, .string ⟨#[]⟩]

def upd {α : Type} (f : Nat → α) (k : Nat) (v : α) : Nat → α := fun j => if j = k then v else f j
theorem upd_same {α : Type} (f : Nat → α) (k : Nat) (v : α) : upd f k v k = v := by simp [upd]
theorem upd_other {α : Type} (f : Nat → α) {k j : Nat} (v : α) (h : j ≠ k) : upd f k v j = f j := by simp [upd, h]

def ptr (b : Nat) : Value := .pointer (some ⟨b, 0, none⟩)

structure TInv (w wr : World) (n k c : Nat) (par : Nat → Nat) (op mn mx : Nat → Int) (blk : Nat → Nat) (sv : Nat → Value) : Prop where
  below : Below w.heap.size w wr
  row : wr.rowIs w.heap.size 58 n (fun j => if j < k then ptr (blk j) else .pointer none)
  node : ∀ j, j < k → w.heap.size < blk j ∧ wr.heap[blk j]? = some (.cells (nodeArr (op j) (mn j) (mx j) (sv j)) 67 (0, 0))
  inj : ∀ i j, i < k → j < k → blk i = blk j → i = j
  subs : ∀ j, j < k → wr.ownsRow (w.heap.size + 1) 58 1 (sv j) (ch par c j).length ((ch par c j).map fun i => ptr (blk i))
  apart : ∀ i j g, i < k → j < k → (sv i).ownBlock = some g → (sv j).ownBlock = some g → i = j

variable {w wr : World} {n k c : Nat} {par : Nat → Nat} {op mn mx : Nat → Int} {blk : Nat → Nat} {sv : Nat → Value}

theorem TInv.drew (h : TInv w wr n k c par op mn mx blk sv) : TInv w wr.drew n k c par op mn mx blk sv :=
  ⟨h.below.drew, h.row, h.node, h.inj, h.subs, h.apart⟩

theorem TInv.lt (h : TInv w wr n k c par op mn mx blk sv) {j : Nat} (hj : j < k) : blk j < wr.heap.size := lt_of_block (h.node j hj).2

/-- Nothing is there yet. -/
theorem TInv.start (w : World) (n : Nat) (par : Nat → Nat) (op mn mx : Nat → Int) (blk : Nat → Nat) (sv : Nat → Value) :
    TInv w (w.alloc (.cells (madeCells #[.pointer none] n) 58)) n 0 0 par op mn mx blk sv where
  below := (Below.refl _ _).alloc (Nat.le_refl _) _
  row := by
    refine (World.rowIs_made w (.pointer none) n 58).congr fun i _ => ?_
    simp
  node := fun j hj => absurd hj (by omega)
  inj := fun i j hi => absurd hi (by omega)
  subs := fun j hj => absurd hj (by omega)
  apart := fun i j g hi => absurd hi (by omega)

theorem ch_none (hp : ∀ i, 0 < i → i < k → par i < i) : ch par k k = [] := by
  rw [List.eq_nil_iff_forall_not_mem]
  intro i hi
  have h := mem_ch.1 hi
  have := hp i h.2.1 h.1
  omega

/-- A new node: its block, and the pointer to it in the row. -/
theorem TInv.newNode (h : TInv w wr n k k par op mn mx blk sv) (hk : k < n) (hp : ∀ i, 0 < i → i < n → par i < i) :
    TInv w ((wr.setCell ⟨w.heap.size, k, none⟩ (ptr wr.heap.size)).alloc (.cells (nodeArr (op k) (mn k) (mx k) (.slice none 0 0)) 67)) n (k + 1) k par op mn mx (upd blk k wr.heap.size) (upd sv k (.slice none 0 0)) := by
  have hsz : (wr.setCell ⟨w.heap.size, k, none⟩ (ptr wr.heap.size)).heap.size = wr.heap.size := by simp
  have hB := h.row.lt
  refine ⟨?_, ?_, ?_, ?_, ?_, ?_⟩
  · exact (h.below.setCell (Nat.le_refl _) _).alloc (by rw [hsz]; omega) _
  · refine ((h.row.set k (ptr wr.heap.size)).alloc _).congr fun j hj => ?_
    by_cases e : j = k
    · subst e; simp [upd_same]
    · have : (j < k + 1) = (j < k) := by simp; omega
      simp only [e, if_false, this, upd_other _ _ e]
  · intro j hj
    by_cases e : j = k
    · subst e
      rw [upd_same, upd_same]
      have hnew := heap_alloc_new (wr.setCell ⟨w.heap.size, j, none⟩ (ptr wr.heap.size)) (.cells (nodeArr (op j) (mn j) (mx j) (.slice none 0 0)) 67)
      rw [hsz] at hnew
      exact ⟨hB, hnew⟩
    · have hj' : j < k := by omega
      obtain ⟨h1, h2⟩ := h.node j hj'
      rw [upd_other _ _ e, upd_other _ _ e]
      exact ⟨h1, by rw [Below.heap_alloc _ _ _ (by rw [hsz]; exact h.lt hj'), heap_setCell_other _ _ _ _ (by show blk j ≠ w.heap.size; omega)]; exact h2⟩
  · intro i j hi hj
    by_cases ei : i = k <;> by_cases ej : j = k
    · intro _; omega
    · subst ei; rw [upd_same, upd_other _ _ ej]; intro e; have := h.lt (show j < i by omega); omega
    · subst ej; rw [upd_same, upd_other _ _ ei]; intro e; have := h.lt (show i < j by omega); omega
    · rw [upd_other _ _ ei, upd_other _ _ ej]; exact h.inj i j (by omega) (by omega)
  · intro j hj
    by_cases e : j = k
    · subst e
      rw [upd_same, ch_none (fun i h1 h2 => hp i h1 (by omega))]
      exact World.ownsRow_nil _ _ _ _
    · have hm : (ch par k j).map (fun i => ptr (upd blk k wr.heap.size i)) = (ch par k j).map fun i => ptr (blk i) := by
        apply List.map_congr_left
        intro i hi
        have := (mem_ch.1 hi).1
        rw [upd_other _ _ (by omega)]
      rw [upd_other _ _ e, hm]
      exact (ownsRow_setCell_below (h.subs j (by omega)) (by show w.heap.size < _; omega) _).alloc _
  · intro i j g hi hj
    by_cases ei : i = k <;> by_cases ej : j = k
    · intro _ _; omega
    · subst ei; rw [upd_same]; intro e; simp [Value.ownBlock] at e
    · subst ej; rw [upd_same]; intro _ e; simp [Value.ownBlock] at e
    · rw [upd_other _ _ ei, upd_other _ _ ej]; exact h.apart i j g (by omega) (by omega)

/-- Node 0 hangs nowhere. -/
theorem TInv.link0 (h : TInv w wr n 1 0 par op mn mx blk sv) : TInv w wr n 1 1 par op mn mx blk sv := by
  refine ⟨h.below, h.row, h.node, h.inj, ?_, h.apart⟩
  intro j hj
  have : ch par 1 j = ch par 0 j := by rw [ch_succ]; simp
  rw [this]
  exact h.subs j hj

theorem node_ne_row {X : World} {b g : Nat} {A : Array Value} {v : Value} {base m : Nat} {xs : List Value} (hb : X.heap[b]? = some (.cells A 67 (0, 0))) (ho : X.ownsRow base 58 1 v m xs) (hg : v.ownBlock = some g) : g ≠ b := by
  rintro rfl
  obtain ⟨_, ⟨rfl, _⟩ | ⟨g', cap, cur, rfl, _, hh, _⟩⟩ := ho
  · simp [Value.ownBlock] at hg
  · simp only [Value.ownBlock, Option.some.injEq] at hg
    subst hg
    rw [hh] at hb
    simp at hb

/-- Node k is hung under its parent: the parent's row has got one pointer more, in place or moved. -/
theorem TInv.link (h : TInv w wr n (k + 1) k par op mn mx blk sv) (hk : 0 < k) (hpk : par k < k) (o : Obj) {w2 : World} {v' : Value} {row : Option Nat}
    (hrow : row = none ∨ row = (sv (par k)).ownBlock) (hg : (wr.alloc o).grownBy w2 row)
    (hown : w2.ownsRow (w.heap.size + 1) 58 1 v' ((ch par k (par k)).length + 1) ((ch par k (par k)).map (fun i => ptr (blk i)) ++ [ptr (blk k)]))
    (hfr : ∀ g', v'.ownBlock = some g' → (sv (par k)).ownBlock = some g' ∨ wr.heap.size ≤ g') :
    TInv w (w2.setCell ⟨blk (par k), 2, none⟩ v') n (k + 1) (k + 1) par op mn mx blk (upd sv (par k) v') := by
  have hP := h.node (par k) (by omega)
  have hsub := h.subs (par k) (by omega)
  -- every block of wr that is not the parent's own row stands in w2
  have keep : ∀ b, b < wr.heap.size → (sv (par k)).ownBlock ≠ some b → w2.heap[b]? = wr.heap[b]? := by
    intro b hb hne
    rw [hg.block b (by simp; omega) (by rcases hrow with e | e <;> rw [e] <;> simp; exact fun e' => hne e'.symm)]
    exact Below.heap_alloc _ _ _ hb
  have hnode : ∀ j, j < k + 1 → w2.heap[blk j]? = wr.heap[blk j]? := fun j hj =>
    keep _ (h.lt hj) (fun e => node_ne_row (h.node j hj).2 hsub e rfl)
  have hBne : (sv (par k)).ownBlock ≠ some w.heap.size := fun e => by have := (hsub.lt _ e).1; omega
  have hv' : ∀ g, v'.ownBlock = some g → g ≠ blk (par k) := fun g e => node_ne_row ((hnode _ (by omega)).trans hP.2) hown e
  refine ⟨?_, ?_, ?_, h.inj, ?_, ?_⟩
  · refine ((h.below.alloc (by have := h.row.lt; omega) o).grown hg (by have := h.row.lt; simp; omega) ?_).setCell (by show w.heap.size ≤ blk (par k); omega) _
    intro g e
    rcases hrow with e' | e'
    · rw [e'] at e; cases e
    · rw [e'] at e; have := (hsub.lt _ e).1; omega
  · exact (h.row.of_block (keep _ h.row.lt hBne)).setOther (by show w.heap.size ≠ blk (par k); omega) _
  · intro j hj
    refine ⟨(h.node j hj).1, ?_⟩
    by_cases e : j = par k
    · subst e
      rw [upd_same, heap_setCell_same _ _ _ _ _ _ ((hnode _ hj).trans hP.2)]
      rfl
    · rw [upd_other _ _ e, heap_setCell_other _ _ _ _ (fun e' => e (h.inj _ _ hj (by omega) e')), hnode j hj]
      exact (h.node j hj).2
  · intro j hj
    by_cases e : j = par k
    · subst e
      rw [upd_same, ch_succ, if_pos ⟨hk, rfl⟩]
      simp only [List.length_append, List.length_singleton, List.map_append, List.map_cons, List.map_nil]
      exact ownsRow_setCell_other hown (fun e' => hv' _ e' rfl) _
    · rw [upd_other _ _ e, ch_succ, if_neg (fun e' => e e'.2.symm), List.append_nil]
      have hs := h.subs j hj
      refine ownsRow_setCell_other ((hs.alloc o).kept hg ?_) ?_ _
      · rcases hrow with e' | e'
        · cases hb : (sv j).ownBlock with
          | none => exact .inl rfl
          | some g => right; rw [e']; simp
        · cases hb : (sv j).ownBlock with
          | none => exact .inl rfl
          | some g => right; rw [e']; intro e2; exact e (h.apart j (par k) g hj (by omega) hb e2.symm)
      · intro e'
        exact node_ne_row hP.2 hs e' rfl
  · intro i j g hi hj
    by_cases ei : i = par k <;> by_cases ej : j = par k
    · intro _ _; omega
    · subst ei
      rw [upd_same, upd_other _ _ ej]
      intro e1 e2
      rcases hfr g e1 with e3 | e3
      · exact absurd (h.apart _ _ g (by omega) hj e3 e2).symm ej
      · have := ((h.subs j hj).lt _ e2).2; omega
    · subst ej
      rw [upd_same, upd_other _ _ ei]
      intro e2 e1
      rcases hfr g e1 with e3 | e3
      · exact absurd (h.apart _ _ g hi (by omega) e2 e3) ei
      · have := ((h.subs i hi).lt _ e2).2; omega
    · rw [upd_other _ _ ei, upd_other _ _ ej]; exact h.apart i j g hi hj

theorem TInv.link2 {q L : Nat} (hq : par k = q) (hL : (ch par k q).length = L) (h : TInv w wr n (k + 1) k par op mn mx blk sv) (hk : 0 < k) (hpk : q < k) (o : Obj) {w2 : World} {v' : Value}
    (hg : (wr.alloc o).grownBy w2 (sv q).ownBlock)
    (hown : w2.ownsRow (w.heap.size + 1) 58 1 v' (L + 1) ((ch par k q).map (fun i => ptr (blk i)) ++ [ptr (blk k)]))
    (hfr : ∀ g', v'.ownBlock = some g' → (sv q).ownBlock = some g' ∨ wr.heap.size ≤ g') :
    TInv w (w2.setCell ⟨blk q, 2, none⟩ v') n (k + 1) (k + 1) par op mn mx blk (upd sv q v') := by
  subst hq
  subst hL
  exact h.link hk hpk o (.inr rfl) hg hown hfr

/-- The whole tree, as shortestLong reads it. -/
theorem TInv.tree (h : TInv w wr n n n par op mn mx blk sv) : TreeAt wr n par op mn mx blk := by
  intro j hj
  have hb := (h.node j hj).2
  have hc : ∀ i v, (nodeArr (op j) (mn j) (mx j) (sv j))[i]? = some v → wr.cell? ⟨blk j, i, none⟩ = some v := fun i v e => by rw [cell_of_row _ _ _ _ _ _ hb]; exact e
  have hs := h.subs j hj
  obtain ⟨hlen, ⟨hv, h0⟩ | ⟨g, cap, cur, hv, _, hh, h1, h2, h3, h4⟩⟩ := hs
  · exact ⟨none, 0, 0, ⟨hc 0 _ rfl, by rw [h0]; exact hc 2 _ (by rw [← hv]; rfl), hc 7 _ rfl, hc 8 _ rfl⟩, fun h => by omega, fun t ht => by omega⟩
  · refine ⟨some ⟨g, 0, none⟩, cap, g, ⟨hc 0 _ rfl, hc 2 _ (by rw [← hv]; rfl), hc 7 _ rfl, hc 8 _ rfl⟩, fun _ => rfl, fun t ht => ?_⟩
    rw [cell_of_row _ _ _ _ _ _ hh]
    have e1 : (cur.toList.take ((ch par n j).length * 1))[t]? = cur[t]? := by
      rw [List.getElem?_take_of_lt (by omega)]; simp
    rw [← e1, h4]
    simp [List.getElem?_map, List.getElem?_eq_getElem ht, ptr]

end Go.Proofs.Ybulkbbhy.Tree
