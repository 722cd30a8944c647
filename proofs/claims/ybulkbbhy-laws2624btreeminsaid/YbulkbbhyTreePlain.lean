/-
  THE PLAIN LAW behind trigrove.LawS2624BTreeMin: no Go in sight. A tree given by parents (node i > 0 hangs under par i < i); the least positive value over the subtree of node 0 is the least positive value over all nodes.
-/
namespace Go.Proofs.Ybulkbbhy.Tree

/-- One step of 'the least of the positive ones, 0 for none'. -/
def comb (s v : Int) : Int := if 0 < v ∧ (s = 0 ∨ v < s) then v else s

/-- The children of node j among the first k nodes, in increasing order. -/
def ch (par : Nat → Nat) (k j : Nat) : List Nat := (List.range k).filter fun i => decide (0 < i ∧ par i = j)

/-- What shortestLong answers at node j, with so much fuel. -/
def best (par : Nat → Nat) (val : Nat → Int) (n : Nat) : Nat → Nat → Int
  | 0, j => val j
  | f + 1, j => (ch par n j).foldl (fun s i => comb s (best par val n f i)) (val j)

/-- What the law's own loop gathers. -/
def want (val : Nat → Int) (k : Nat) : Int := (List.range k).foldl (fun s i => comb s (val i)) 0

theorem want_succ (val : Nat → Int) (k : Nat) : want val (k + 1) = comb (want val k) (val k) := by
  simp [want, List.range_succ]

theorem ch_succ (par : Nat → Nat) (k j : Nat) : ch par (k + 1) j = ch par k j ++ if 0 < k ∧ par k = j then [k] else [] := by
  unfold ch
  rw [List.range_succ, List.filter_append]
  by_cases h : 0 < k ∧ par k = j <;> simp [h]

theorem mem_ch {par : Nat → Nat} {k j i : Nat} : i ∈ ch par k j ↔ i < k ∧ 0 < i ∧ par i = j := by
  simp [ch]

/-- 'No positive value below t'. -/
def P (t v : Int) : Prop := v = 0 ∨ t ≤ v

theorem comb_nonneg {s v : Int} (hs : 0 ≤ s) : 0 ≤ comb s v := by
  unfold comb; split <;> omega

theorem P_comb {t s v : Int} (_ht : 0 < t) (hs : 0 ≤ s) (hv : 0 ≤ v) : P t (comb s v) ↔ P t s ∧ P t v := by
  unfold P comb; split <;> omega

theorem P_foldl {α : Type} (t : Int) (ht : 0 < t) (g : α → Int) (hg : ∀ a, 0 ≤ g a) : ∀ (l : List α) (s : Int), 0 ≤ s →
    (0 ≤ l.foldl (fun s i => comb s (g i)) s ∧ (P t (l.foldl (fun s i => comb s (g i)) s) ↔ P t s ∧ ∀ i ∈ l, P t (g i)))
  | [], s, hs => by simp [hs]
  | a :: l, s, hs => by
    have ih := P_foldl t ht g hg l (comb s (g a)) (comb_nonneg hs)
    simp only [List.foldl_cons, List.mem_cons, forall_eq_or_imp]
    exact ⟨ih.1, by rw [ih.2, P_comb ht hs (hg a)]; exact and_assoc⟩

theorem best_nonneg {par : Nat → Nat} {val : Nat → Int} {n : Nat} (hv : ∀ i, 0 ≤ val i) : ∀ f j, 0 ≤ best par val n f j
  | 0, j => hv j
  | f + 1, j => (P_foldl 1 (by omega) _ (fun i => best_nonneg hv f i) (ch par n j) (val j) (hv j)).1

theorem P_best {par : Nat → Nat} {val : Nat → Int} {n : Nat} (hv : ∀ i, 0 ≤ val i) (t : Int) (ht : 0 < t) (f j : Nat) :
    P t (best par val n (f + 1) j) ↔ P t (val j) ∧ ∀ i ∈ ch par n j, P t (best par val n f i) :=
  (P_foldl t ht _ (fun i => best_nonneg hv f i) (ch par n j) (val j) (hv j)).2

/-- Downward: if all values are free of positives below t, so is what any node answers. -/
theorem P_best_of_all {par : Nat → Nat} {val : Nat → Int} {n : Nat} (hv : ∀ i, 0 ≤ val i) (t : Int) (ht : 0 < t) (hall : ∀ i, i < n → P t (val i)) :
    ∀ f j, j < n → P t (best par val n f j)
  | 0, j, hj => hall j hj
  | f + 1, j, hj => (P_best hv t ht f j).2 ⟨hall j hj, fun i hi => P_best_of_all hv t ht hall f i (mem_ch.1 hi).1⟩

/-- Upward: if node 0's answer is free of them, every node's answer is, at the fuel that is left, so every value is. -/
theorem P_all_of_best {par : Nat → Nat} {val : Nat → Int} {n : Nat} (hv : ∀ i, 0 ≤ val i) (hp : ∀ i, 0 < i → i < n → par i < i) (t : Int) (ht : 0 < t) (F : Nat) (hF : n ≤ F)
    (h0 : P t (best par val n F 0)) : ∀ m i, i < m → i < n → ∃ f, n - i ≤ f ∧ P t (best par val n f i)
  | 0, _, h, _ => absurd h (Nat.not_lt_zero _)
  | m + 1, i, hi, hn => by
    by_cases hz : i = 0
    · subst hz; exact ⟨F, by omega, h0⟩
    · have hpi := hp i (by omega) hn
      obtain ⟨f, hf, hP⟩ := P_all_of_best hv hp t ht F hF h0 m (par i) (by omega) (by omega)
      obtain ⟨f', rfl⟩ : ∃ f', f = f' + 1 := ⟨f - 1, by omega⟩
      exact ⟨f', by omega, ((P_best hv t ht f' (par i)).1 hP).2 i (mem_ch.2 ⟨hn, by omega, rfl⟩)⟩

theorem eq_of_P {a b : Int} (ha : 0 ≤ a) (hb : 0 ≤ b) (h : ∀ t, 0 < t → (P t a ↔ P t b)) : a = b := by
  have h1 := h (a + 1) (by omega)
  have h2 := h (b + 1) (by omega)
  by_cases za : a = 0 <;> by_cases zb : b = 0
  · omega
  · have := h (b + 1) (by omega); unfold P at this; omega
  · have := h (a + 1) (by omega); unfold P at this; omega
  · have h3 := h a (by omega); have h4 := h b (by omega); unfold P at h3 h4; omega

/-- THE PLAIN LAW. -/
theorem best_eq_want {par : Nat → Nat} {val : Nat → Int} {n : Nat} (hv : ∀ i, 0 ≤ val i) (hp : ∀ i, 0 < i → i < n → par i < i) (hn : 0 < n) (F : Nat) (hF : n ≤ F) :
    best par val n F 0 = want val n := by
  have hw := fun t ht => P_foldl t ht val hv (List.range n) 0 (by omega)
  refine eq_of_P (best_nonneg hv F 0) (hw 1 (by omega)).1 fun t ht => ?_
  have hw' : P t (want val n) ↔ ∀ i, i < n → P t (val i) := by
    have := (hw t ht).2
    unfold want
    rw [this]
    constructor
    · intro h i hi; exact h.2 i (by simpa using hi)
    · intro h; exact ⟨Or.inl rfl, fun i hi => h i (by simpa using hi)⟩
  rw [hw']
  constructor
  · intro h i hi
    obtain ⟨f, hf, hP⟩ := P_all_of_best hv hp t ht F hF h (i + 1) i (by omega) hi
    cases f with
    | zero => exact hP
    | succ f => exact ((P_best hv t ht f i).1 hP).1
  · intro h; exact P_best_of_all hv t ht h F 0 hn

end Go.Proofs.Ybulkbbhy.Tree
