/-
  THE PLAIN MATTER of trigrove.LawS2624AMerge: places and their order; a heap as a function on indices; what one step of 'down' does. No Go in sight.
-/
namespace Go.Proofs.Ybulkbbhy.Mg

/-- A place: the key, the segment, the entry's index. -/
structure Pl where
  k : Nat
  s : Nat
  i : Nat

def ltP (a b : Pl) : Prop := a.k < b.k ∨ (a.k = b.k ∧ a.s < b.s)
def ltB (a b : Pl) : Bool := decide (a.k < b.k) || (decide (a.k = b.k) && decide (a.s < b.s))
theorem ltB_iff {a b : Pl} : ltB a b = true ↔ ltP a b := by simp [ltB, ltP]
theorem ltB_false {a b : Pl} : ltB a b = false ↔ ¬ ltP a b := by
  rw [← ltB_iff]; simp

/-- In order from parent r on. -/
def Ok (h : Nat → Pl) (n r : Nat) : Prop := ∀ c, 0 < c → c < n → r ≤ (c - 1) / 2 → ¬ ltP (h c) (h ((c - 1) / 2))

def sw (h : Nat → Pl) (i j : Nat) : Nat → Pl := fun x => if x = i then h j else if x = j then h i else h x
theorem sw_i (h : Nat → Pl) (i j : Nat) : sw h i j i = h j := by simp [sw]
theorem sw_j (h : Nat → Pl) (i j : Nat) (hij : j ≠ i) : sw h i j j = h i := by simp [sw, hij]
theorem sw_o (h : Nat → Pl) (i j x : Nat) (hi : x ≠ i) (hj : x ≠ j) : sw h i j x = h x := by simp [sw, hi, hj]

/-- While the place at i is on its way down from r. -/
structure Sift (h : Nat → Pl) (n r i : Nat) : Prop where
  le : r ≤ i
  out : ∀ c, 0 < c → c < n → r ≤ (c - 1) / 2 → (c - 1) / 2 ≠ i → ¬ ltP (h c) (h ((c - 1) / 2))
  up : ∀ c, 0 < c → c < n → (c - 1) / 2 = i → 0 < i → r ≤ (i - 1) / 2 → ¬ ltP (h c) (h ((i - 1) / 2))

theorem Sift.start {h : Nat → Pl} {n r : Nat} (hk : Ok h n (r + 1)) : Sift h n r r :=
  ⟨Nat.le_refl _, fun c h0 h1 h2 h3 => hk c h0 h1 (by omega), fun c h0 h1 h2 h3 h4 => by omega⟩

theorem Sift.leaf {h : Nat → Pl} {n r i : Nat} (hs : Sift h n r i) (hn : n ≤ 2 * i + 1) : Ok h n r := by
  intro c h0 h1 h2
  by_cases e : (c - 1) / 2 = i
  · omega
  · exact hs.out c h0 h1 h2 e

/-- c is the lesser of i's children. -/
structure Least (h : Nat → Pl) (n i c : Nat) : Prop where
  par : (c - 1) / 2 = i
  pos : 0 < c
  lt : c < n
  le : ∀ d, 0 < d → d < n → (d - 1) / 2 = i → ¬ ltP (h d) (h c)

theorem Sift.done {h : Nat → Pl} {n r i c : Nat} (hs : Sift h n r i) (hc : Least h n i c) (hl : ¬ ltP (h c) (h i)) : Ok h n r := by
  intro d h0 h1 h2
  by_cases e : (d - 1) / 2 = i
  · have := hc.le d h0 h1 e
    rw [e]
    unfold ltP at *
    omega
  · exact hs.out d h0 h1 h2 e

theorem Sift.step {h : Nat → Pl} {n r i c : Nat} (hs : Sift h n r i) (hc : Least h n i c) (hl : ltP (h c) (h i)) : Sift (sw h i c) n r c := by
  have hp := hc.par
  have hpos := hc.pos
  have hic : i < c := by omega
  have hle := hs.le
  refine ⟨by omega, ?_, ?_⟩
  · intro d h0 h1 h2 h3
    by_cases e : (d - 1) / 2 = i
    · -- i's children: i holds what c held
      rw [e, sw_i]
      by_cases ed : d = c
      · subst ed; rw [sw_j _ _ _ (by omega)]; unfold ltP at *; omega
      · rw [sw_o _ _ _ _ (by omega) ed]; exact hc.le d h0 h1 e
    · by_cases ed : d = i
      · -- i itself under its parent
        subst ed
        have hpp : (d - 1) / 2 ≠ d := by omega
        have hpc : (d - 1) / 2 ≠ c := by omega
        rw [sw_i, sw_o _ _ _ _ hpp hpc]
        exact hs.up c hpos hc.lt hp h0 h2
      · by_cases ec : d = c
        · omega
        · rw [sw_o _ _ _ _ ed ec, sw_o _ _ _ _ e h3]
          exact hs.out d h0 h1 h2 e
  · intro d h0 h1 h2 h3 h4
    -- d a child of c; c's parent is i
    have : (c - 1) / 2 = i := hp
    rw [this, sw_i, sw_o _ _ _ _ (by omega) (by omega)]
    have := hs.out d h0 h1 (by omega) (by omega)
    rw [h2] at this
    exact this

/-- The same places, in another order. -/
def Same (h h' : Nat → Pl) (n : Nat) : Prop := (∀ j, j < n → ∃ l, l < n ∧ h' l = h j) ∧ (∀ j, j < n → ∃ l, l < n ∧ h l = h' j)
theorem Same.refl (h : Nat → Pl) (n : Nat) : Same h h n := ⟨fun j hj => ⟨j, hj, rfl⟩, fun j hj => ⟨j, hj, rfl⟩⟩
theorem Same.trans {h h' h'' : Nat → Pl} {n : Nat} (a : Same h h' n) (b : Same h' h'' n) : Same h h'' n :=
  ⟨fun j hj => by obtain ⟨l, hl, e⟩ := a.1 j hj; obtain ⟨l', hl', e'⟩ := b.1 l hl; exact ⟨l', hl', e'.trans e⟩,
   fun j hj => by obtain ⟨l, hl, e⟩ := b.2 j hj; obtain ⟨l', hl', e'⟩ := a.2 l hl; exact ⟨l', hl', e'.trans e⟩⟩
theorem Same.sw {h : Nat → Pl} {n i c : Nat} (hi : i < n) (hc : c < n) (hne : c ≠ i) : Same h (sw h i c) n := by
  constructor
  · intro j hj
    by_cases e : j = i
    · subst e; exact ⟨c, hc, sw_j _ _ _ hne⟩
    · by_cases e' : j = c
      · subst e'; exact ⟨i, hi, sw_i _ _ _⟩
      · exact ⟨j, hj, sw_o _ _ _ _ e e'⟩
  · intro j hj
    by_cases e : j = i
    · subst e; exact ⟨c, hc, (sw_i _ _ _).symm⟩
    · by_cases e' : j = c
      · subst e'; exact ⟨i, hi, (sw_j _ _ _ hne).symm⟩
      · exact ⟨j, hj, (sw_o _ _ _ _ e e').symm⟩

/-- No segment twice. -/
def Inj (h : Nat → Pl) (n : Nat) : Prop := ∀ i j, i < n → j < n → (h i).s = (h j).s → i = j
theorem Inj.sw {h : Nat → Pl} {n i c : Nat} (hI : Inj h n) (hi : i < n) (hc : c < n) (hne : c ≠ i) : Inj (sw h i c) n := by
  intro a b ha hb e
  by_cases a1 : a = i <;> by_cases b1 : b = i <;> by_cases a2 : a = c <;> by_cases b2 : b = c <;> simp [Mg.sw, a1, b1, a2, b2, hne, Ne.symm hne] at e ⊢ <;> first
    | omega
    | (have := hI _ _ hc hi e; omega)
    | (have := hI _ _ hi hc e; omega)
    | (have := hI _ _ hc hb e; omega)
    | (have := hI _ _ ha hc e; omega)
    | (have := hI _ _ hi hb e; omega)
    | (have := hI _ _ ha hi e; omega)
    | (have := hI _ _ ha hb e; omega)

/-- The root of a heap comes before none. -/
theorem root_least {h : Nat → Pl} {n : Nat} (hk : Ok h n 0) : ∀ j, j < n → ¬ ltP (h j) (h 0) := by
  intro j
  induction j using Nat.strongRecOn with
  | ind j ih =>
    intro hj
    by_cases e : j = 0
    · subst e; unfold ltP; omega
    · have h1 := hk j (by omega) hj (by omega)
      have h2 := ih ((j - 1) / 2) (by omega) (by omega)
      unfold ltP at *
      omega

end Go.Proofs.Ybulkbbhy.Mg
