/-
  The plain matter of the law's own items: keys out of steps; the sorting by insertion; a row of items in memory. No walk here.
-/
import Derived.Test.YbulkbbhyMgNS
namespace Go.Proofs.Ybulkbbhy.Mg
open Go.RowKit

/-- The sum of the first i steps. -/
def psum (f : Nat → Nat) : Nat → Nat
  | 0 => 0
  | i + 1 => psum f i + (f i % 4 + 1)
theorem psum_le (f : Nat → Nat) : ∀ i, psum f i ≤ 4 * i
  | 0 => Nat.le_refl _
  | i + 1 => by have := psum_le f i; simp only [psum]; omega
theorem psum_lt (f : Nat → Nat) {i j : Nat} (h : i < j) : psum f i < psum f j := by
  induction j with
  | zero => omega
  | succ j ih =>
    simp only [psum]
    by_cases e : i = j
    · subst e; omega
    · have := ih (by omega); omega
def keyF (stp : Nat → Nat → Nat) (s i : Nat) : Nat := psum (stp s) (i + 1)

/-- The items of the segments before s and of the first i entries of s, sorted. -/
structure Its (n : Nat → Nat) (key : Nat → Nat → Nat) (it : Nat → Pl) (m s i : Nat) : Prop where
  sorted : ∀ a b, a < b → b < m → ltP (it a) (it b)
  src : ∀ x, x < m → ((it x).s < s ∧ (it x).i < n (it x).s ∨ (it x).s = s ∧ (it x).i < i) ∧ (it x).k = key (it x).s (it x).i
  all : ∀ t j, (t < s ∧ j < n t ∨ t = s ∧ j < i) → ∃ x, x < m ∧ it x = ⟨key t j, t, j⟩

theorem Its.zero (n : Nat → Nat) (key : Nat → Nat → Nat) (it : Nat → Pl) : Its n key it 0 0 0 :=
  ⟨fun a b h1 h2 => by omega, fun x hx => by omega, fun t j h => by omega⟩

theorem Its.next {n : Nat → Nat} {key : Nat → Nat → Nat} {it : Nat → Pl} {m s : Nat} (H : Its n key it m s (n s)) : Its n key it m (s + 1) 0 := by
  refine ⟨H.sorted, fun x hx => ?_, fun t j h => ?_⟩
  · obtain ⟨h1, h2⟩ := H.src x hx
    refine ⟨.inl ?_, h2⟩
    rcases h1 with h1 | ⟨h1, h3⟩
    · exact ⟨by omega, h1.2⟩
    · exact ⟨by omega, by rw [h1]; exact h3⟩
  · refine H.all t j ?_
    rcases h with h | h
    · by_cases e : t = s
      · right; exact ⟨e, by rw [← e]; exact h.2⟩
      · left; exact ⟨by omega, h.2⟩
    · omega

/-- p put in at j. -/
def insA (it : Nat → Pl) (p : Pl) (j : Nat) : Nat → Pl := fun y => if y < j then it y else if y = j then p else it (y - 1)
theorem insA_at (it : Nat → Pl) (p : Pl) (j : Nat) : insA it p j j = p := by simp [insA]
theorem insA_lt (it : Nat → Pl) (p : Pl) (j y : Nat) (h : y < j) : insA it p j y = it y := by simp [insA, h]
theorem insA_gt (it : Nat → Pl) (p : Pl) (j y : Nat) (h : j < y) : insA it p j y = it (y - 1) := by
  simp [insA, show ¬ y < j by omega, show ¬ y = j by omega]
theorem insA_step (it : Nat → Pl) (p : Pl) (j : Nat) : updP (updP (insA it p (j + 1)) (j + 1) (it j)) j p = insA it p j := by
  funext y
  unfold updP
  by_cases e : y = j
  · rw [if_pos e, e, insA_at]
  · rw [if_neg e]
    by_cases e2 : y = j + 1
    · rw [if_pos e2, e2, insA_gt _ _ _ _ (by omega)]; simp
    · rw [if_neg e2]
      by_cases e3 : y < j
      · rw [insA_lt _ _ _ _ (by omega), insA_lt _ _ _ _ e3]
      · rw [insA_gt _ _ _ _ (by omega), insA_gt _ _ _ _ (by omega)]

theorem ltP_trans {a b c : Pl} (h1 : ltP a b) (h2 : ltP b c) : ltP a c := by unfold ltP at *; omega

theorem Its.ins {n : Nat → Nat} {key : Nat → Nat → Nat} {it : Nat → Pl} {m s i j : Nat} (H : Its n key it m s i) (hi : i < n s) (up : ∀ a b, a < b → b < n s → key s a < key s b) (hj : j ≤ m)
    (hab : ∀ y, j ≤ y → y < m → ltP ⟨key s i, s, i⟩ (it y)) (hst : j = 0 ∨ ¬ ltP ⟨key s i, s, i⟩ (it (j - 1))) : Its n key (insA it ⟨key s i, s, i⟩ j) (m + 1) s (i + 1) := by
  have hbel : ∀ y, y < j → ltP (it y) ⟨key s i, s, i⟩ := by
    intro y hy
    have hlast : ltP (it (j - 1)) ⟨key s i, s, i⟩ := by
      have hn := hst.resolve_left (by omega)
      obtain ⟨h1, h2⟩ := H.src (j - 1) (by omega)
      unfold ltP at *
      simp only at *
      rcases h1 with h1 | ⟨h1, h3⟩
      · omega
      · have := up _ _ h3 hi
        rw [h1] at h2
        omega
    by_cases e : y = j - 1
    · rw [e]; exact hlast
    · exact ltP_trans (H.sorted y (j - 1) (by omega) (by omega)) hlast
  refine ⟨?_, ?_, ?_⟩
  · intro a b h1 h2
    rcases Nat.lt_trichotomy b j with hb | hb | hb
    · rw [insA_lt _ _ _ _ hb, insA_lt _ _ _ _ (by omega)]; exact H.sorted a b h1 (by omega)
    · rw [hb, insA_at, insA_lt _ _ _ _ (by omega)]; exact hbel a (by omega)
    · rw [insA_gt _ _ _ _ hb]
      rcases Nat.lt_trichotomy a j with ha | ha | ha
      · rw [insA_lt _ _ _ _ ha]; exact H.sorted a (b - 1) (by omega) (by omega)
      · rw [ha, insA_at]; exact hab (b - 1) (by omega) (by omega)
      · rw [insA_gt _ _ _ _ ha]; exact H.sorted (a - 1) (b - 1) (by omega) (by omega)
  · intro x hx
    rcases Nat.lt_trichotomy x j with hb | hb | hb
    · rw [insA_lt _ _ _ _ hb]
      obtain ⟨h1, h2⟩ := H.src x (by omega)
      exact ⟨by omega, h2⟩
    · rw [hb, insA_at]
      exact ⟨.inr ⟨rfl, Nat.lt_succ_self _⟩, rfl⟩
    · rw [insA_gt _ _ _ _ hb]
      obtain ⟨h1, h2⟩ := H.src (x - 1) (by omega)
      exact ⟨by omega, h2⟩
  · intro t a h
    by_cases e : t = s ∧ a = i
    · obtain ⟨rfl, rfl⟩ := e
      exact ⟨j, by omega, insA_at _ _ _⟩
    · obtain ⟨x, hx, ex⟩ := H.all t a (by omega)
      by_cases hxj : x < j
      · exact ⟨x, by omega, by rw [insA_lt _ _ _ _ hxj, ex]⟩
      · exact ⟨x + 1, by omega, by rw [insA_gt _ _ _ _ (by omega)]; exact ex⟩

theorem Its.rep {n : Nat → Nat} {key : Nat → Nat → Nat} {it : Nat → Pl} {m S : Nat} (H : Its n key it m S 0) : Rep S n key it m 0 (fun _ => 0) := by
  refine ⟨H.sorted, fun x _ hx => ?_, fun t i ht _ hi => ?_, Nat.zero_le _⟩
  · obtain ⟨h1, h2⟩ := H.src x hx
    rcases h1 with h1 | h1
    · exact ⟨h1.1, Nat.zero_le _, h1.2, h2⟩
    · omega
  · obtain ⟨x, hx, e⟩ := H.all t i (.inl ⟨ht, hi⟩)
    exact ⟨x, Nat.zero_le _, hx, e⟩

/-! ### The row of items -/
/-- Block b is a row of T items of four cells: the first m are it. -/
def ItBlk (w : World) (b T m : Nat) (cnt : Nat → Nat → Nat) (it : Nat → Pl) : Prop :=
  ∃ cur : Array Value, w.heap[b]? = some (.cells cur 36 (0, 0)) ∧ cur.size = T * 4 ∧
    ∀ j, j < m → cur[j * 4]? = some (.int .u64 (it j).k) ∧ cur[j * 4 + 1]? = some (.int .i64 (it j).s) ∧ cur[j * 4 + 2]? = some (.int .i64 (it j).i) ∧ cur[j * 4 + 3]? = some (.int .u32 (cnt (it j).s (it j).i))

section
variable {w w' : World} {b T m : Nat} {cnt : Nat → Nat → Nat} {it it' : Nat → Pl}
theorem ItBlk.c0 (H : ItBlk w b T m cnt it) {j : Nat} (hj : j < m) : w.cell? ⟨b, j * 4, none⟩ = some (.int .u64 (it j).k) := by
  obtain ⟨cur, hb, _, hc⟩ := H; rw [cell_of_row _ _ _ _ _ _ hb]; exact (hc j hj).1
theorem ItBlk.c1 (H : ItBlk w b T m cnt it) {j : Nat} (hj : j < m) : w.cell? ⟨b, j * 4 + 1, none⟩ = some (.int .i64 (it j).s) := by
  obtain ⟨cur, hb, _, hc⟩ := H; rw [cell_of_row _ _ _ _ _ _ hb]; exact (hc j hj).2.1
theorem ItBlk.c2 (H : ItBlk w b T m cnt it) {j : Nat} (hj : j < m) : w.cell? ⟨b, j * 4 + 2, none⟩ = some (.int .i64 (it j).i) := by
  obtain ⟨cur, hb, _, hc⟩ := H; rw [cell_of_row _ _ _ _ _ _ hb]; exact (hc j hj).2.2.1
theorem ItBlk.c3 (H : ItBlk w b T m cnt it) {j : Nat} (hj : j < m) : w.cell? ⟨b, j * 4 + 3, none⟩ = some (.int .u32 (cnt (it j).s (it j).i)) := by
  obtain ⟨cur, hb, _, hc⟩ := H; rw [cell_of_row _ _ _ _ _ _ hb]; exact (hc j hj).2.2.2
theorem ItBlk.free (H : ItBlk w b T m cnt it) (j : Nat) : w.frozen? ⟨b, j, none⟩ = false := by
  obtain ⟨cur, hb, _, hc⟩ := H; exact frozen_of_row _ _ _ _ _ hb
theorem ItBlk.some (H : ItBlk w b T m cnt it) {j : Nat} (hj : j < T * 4) : (w.cell? ⟨b, j, none⟩).isSome = true := by
  obtain ⟨cur, hb, hn, hc⟩ := H; rw [cell_of_row _ _ _ _ _ _ hb, Array.getElem?_eq_getElem (by omega)]; rfl
theorem ItBlk.lt (H : ItBlk w b T m cnt it) : b < w.heap.size := by
  obtain ⟨cur, hb, _⟩ := H; exact lt_of_block hb
theorem ItBlk.of_block (H : ItBlk w b T m cnt it) (e : w'.heap[b]? = w.heap[b]?) : ItBlk w' b T m cnt it := by
  obtain ⟨cur, hb, hn, hc⟩ := H; exact ⟨cur, e.trans hb, hn, hc⟩
theorem ItBlk.congr (H : ItBlk w b T m cnt it) (e : ∀ j, j < m → it j = it' j) : ItBlk w b T m cnt it' := by
  obtain ⟨cur, hb, hn, hc⟩ := H; exact ⟨cur, hb, hn, fun j hj => by rw [← e j hj]; exact hc j hj⟩

/-- An item stored at j. -/
def putIt (w : World) (b j : Nat) (p : Pl) (c : Nat) : World :=
  (((w.setCell ⟨b, j * 4, none⟩ (.int .u64 p.k)).setCell ⟨b, j * 4 + 1, none⟩ (.int .i64 p.s)).setCell ⟨b, j * 4 + 2, none⟩ (.int .i64 p.i)).setCell ⟨b, j * 4 + 3, none⟩ (.int .u32 c)

theorem ItBlk.put' (H : ItBlk w b T m cnt it) (j : Nat) (p : Pl) (hj : j ≤ m) (hT : j < T) (m' : Nat) (hm' : m' = m ∨ (m' = m + 1 ∧ j = m)) : ItBlk (putIt w b j p (cnt p.s p.i)) b T m' cnt (updP it j p) := by
  obtain ⟨cur, hb, hn, hc⟩ := H
  refine ⟨(((cur.setIfInBounds (j * 4) (.int .u64 p.k)).setIfInBounds (j * 4 + 1) (.int .i64 p.s)).setIfInBounds (j * 4 + 2) (.int .i64 p.i)).setIfInBounds (j * 4 + 3) (.int .u32 (cnt p.s p.i)), ?_, by simpa using hn, ?_⟩
  · exact heap_setCell_same _ _ _ _ _ _ (heap_setCell_same _ _ _ _ _ _ (heap_setCell_same _ _ _ _ _ _ (heap_setCell_same _ _ _ _ _ _ hb)))
  · intro x hx
    simp only [Array.getElem?_setIfInBounds, Array.size_setIfInBounds, updP]
    by_cases e : x = j
    · subst e
      refine ⟨?_, ?_, ?_, ?_⟩
      · rw [if_neg (by omega), if_neg (by omega), if_neg (by omega), if_pos rfl, if_pos (by omega), if_pos rfl]
      · rw [if_neg (by omega), if_neg (by omega), if_pos rfl, if_pos (by omega), if_pos rfl]
      · rw [if_neg (by omega), if_pos rfl, if_pos (by omega), if_pos rfl]
      · rw [if_pos rfl, if_pos (by omega), if_pos rfl]
    · obtain ⟨e0, e1, e2, e3⟩ := hc x (by omega)
      rw [if_neg e]
      refine ⟨?_, ?_, ?_, ?_⟩
      · rw [if_neg (by omega), if_neg (by omega), if_neg (by omega), if_neg (by omega)]; exact e0
      · rw [if_neg (by omega), if_neg (by omega), if_neg (by omega), if_neg (by omega)]; exact e1
      · rw [if_neg (by omega), if_neg (by omega), if_neg (by omega), if_neg (by omega)]; exact e2
      · rw [if_neg (by omega), if_neg (by omega), if_neg (by omega), if_neg (by omega)]; exact e3
theorem ItBlk.put (H : ItBlk w b T m cnt it) (j : Nat) (p : Pl) (hj : j < m) (hm : m ≤ T) : ItBlk (putIt w b j p (cnt p.s p.i)) b T m cnt (updP it j p) :=
  H.put' j p (by omega) (by omega) m (.inl rfl)
theorem ItBlk.add (H : ItBlk w b T m cnt it) (p : Pl) (hm : m < T) : ItBlk (putIt w b m p (cnt p.s p.i)) b T (m + 1) cnt (updP it m p) :=
  H.put' m p (Nat.le_refl _) hm (m + 1) (.inr ⟨rfl, rfl⟩)
theorem grown_putIt (w : World) (b j : Nat) (p : Pl) (c : Nat) : w.grownBy (putIt w b j p c) (some b) :=
  grown_trans (grown_trans (grown_trans (grown_set _ _ _ _) (grown_set _ _ _ _)) (grown_set _ _ _ _)) (grown_set _ _ _ _)
end

end Go.Proofs.Ybulkbbhy.Mg
