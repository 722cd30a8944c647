/-
  The plain matter of 'next': the remaining items, sorted, against the heads. No Go in sight.
-/
import Derived.Test.YbulkbbhyMgPlain
namespace Go.Proofs.Ybulkbbhy.Mg

def updP (h : Nat → Pl) (j : Nat) (p : Pl) : Nat → Pl := fun x => if x = j then p else h x
def updN (f : Nat → Nat) (j v : Nat) : Nat → Nat := fun x => if x = j then v else f x

/-- The heads of the first s segments. -/
structure Heads (n : Nat → Nat) (key : Nat → Nat → Nat) (pos : Nat → Nat) (s : Nat) (h : Nat → Pl) (hn : Nat) : Prop where
  src : ∀ j, j < hn → ∃ t, t < s ∧ pos t < n t ∧ h j = ⟨key t (pos t), t, pos t⟩
  all : ∀ t, t < s → pos t < n t → ∃ j, j < hn ∧ h j = ⟨key t (pos t), t, pos t⟩
  inj : Inj h hn
  le : hn ≤ s

/-- The items from g on are the entries that are left. -/
structure Rep (S : Nat) (n : Nat → Nat) (key : Nat → Nat → Nat) (it : Nat → Pl) (T g : Nat) (pos : Nat → Nat) : Prop where
  sorted : ∀ a b, a < b → b < T → ltP (it a) (it b)
  src : ∀ x, g ≤ x → x < T → (it x).s < S ∧ pos (it x).s ≤ (it x).i ∧ (it x).i < n (it x).s ∧ (it x).k = key (it x).s (it x).i
  all : ∀ t i, t < S → pos t ≤ i → i < n t → ∃ x, g ≤ x ∧ x < T ∧ it x = ⟨key t i, t, i⟩
  le : g ≤ T

variable {S T g hn : Nat} {n pos : Nat → Nat} {key : Nat → Nat → Nat} {it h : Nat → Pl}

theorem Rep.some (hR : Rep S n key it T g pos) (hH : Heads n key pos S h hn) : g < T ↔ 0 < hn := by
  constructor
  · intro hg
    obtain ⟨h1, h2, h3, _⟩ := hR.src g (Nat.le_refl _) hg
    obtain ⟨j, hj, _⟩ := hH.all (it g).s h1 (by omega)
    omega
  · intro h0
    obtain ⟨t, ht, hp, _⟩ := hH.src 0 h0
    obtain ⟨x, h1, h2, _⟩ := hR.all t (pos t) ht (Nat.le_refl _) hp
    omega

/-- THE ROOT IS THE NEXT ITEM. -/
theorem Rep.root (hR : Rep S n key it T g pos) (hH : Heads n key pos S h hn) (hO : Ok h hn 0) (up : ∀ s i j, s < S → i < j → j < n s → key s i < key s j) (hg : g < T) :
    h 0 = it g ∧ (it g).s < S ∧ (it g).i = pos (it g).s ∧ pos (it g).s < n (it g).s ∧ (it g).k = key (it g).s (pos (it g).s) := by
  have h0 := (hR.some hH).1 hg
  obtain ⟨g1, g2, g3, g4⟩ := hR.src g (Nat.le_refl _) hg
  obtain ⟨j, hj, ej⟩ := hH.all (it g).s g1 (by omega)
  obtain ⟨t, ht, hp, e0⟩ := hH.src 0 h0
  have hroot := root_least hO j hj
  -- the root is one of what is left: not before it g
  obtain ⟨x, x1, x2, ex⟩ := hR.all t (pos t) ht (Nat.le_refl _) hp
  have hx : x = g ∨ ltP (it g) (it x) := by
    by_cases e : x = g
    · exact .inl e
    · exact .inr (hR.sorted g x (by omega) x2)
  have hkle : key (it g).s (pos (it g).s) ≤ (it g).k := by
    rw [g4]
    by_cases e : pos (it g).s = (it g).i
    · rw [e]; exact Nat.le_refl _
    · exact Nat.le_of_lt (up _ _ _ g1 (by omega) g3)
  have e1 : h 0 = it x := e0.trans ex.symm
  have hxg : x = g := by
    rcases hx with e | e
    · exact e
    · rw [e1, ej] at hroot
      unfold ltP at *
      simp at hroot
      omega
  subst hxg
  refine ⟨e1, g1, ?_, by omega, ?_⟩
  · have := congrArg Pl.i ex; have h2 := congrArg Pl.s ex; simp at this h2; rw [this, h2]
  · have := congrArg Pl.k ex; have h2 := congrArg Pl.s ex; simp at this h2; rw [this, h2]

/-- An item is taken. -/
theorem Rep.pop (hR : Rep S n key it T g pos) (hg : g < T) (hi : (it g).i = pos (it g).s) : Rep S n key it T (g + 1) (updN pos (it g).s (pos (it g).s + 1)) := by
  obtain ⟨g1, g2, g3, g4⟩ := hR.src g (Nat.le_refl _) hg
  refine ⟨hR.sorted, ?_, ?_, by omega⟩
  · intro x hx hxT
    obtain ⟨x1, x2, x3, x4⟩ := hR.src x (by omega) hxT
    refine ⟨x1, ?_, x3, x4⟩
    unfold updN
    split
    · rename_i e
      rw [e] at x2 x4
      have hne : (it x).i ≠ (it g).i := by
        intro e2
        have hk : (it x).k = (it g).k := by rw [x4, g4, e2]
        have := hR.sorted g x (by omega) hxT
        unfold ltP at this
        omega
      omega
    · exact x2
  · intro t i ht hp hin
    by_cases e : t = (it g).s
    · subst e
      simp [updN] at hp
      obtain ⟨x, x1, x2, ex⟩ := hR.all _ i ht (by omega) hin
      refine ⟨x, ?_, x2, ex⟩
      by_cases e2 : x = g
      · subst e2; have := congrArg Pl.i ex; simp at this; omega
      · omega
    · simp [updN, e] at hp
      obtain ⟨x, x1, x2, ex⟩ := hR.all t i ht hp hin
      refine ⟨x, ?_, x2, ex⟩
      by_cases e2 : x = g
      · subst e2; have := congrArg Pl.s ex; simp at this; omega
      · omega

/-- The root gives way to its segment's next entry. -/
theorem Heads.repl (hH : Heads n key pos S h hn) (h0 : 0 < hn) {s : Nat} (hs : s < S) (e0 : (h 0).s = s) (hp : pos s + 1 < n s) :
    Heads n key (updN pos s (pos s + 1)) S (updP h 0 ⟨key s (pos s + 1), s, pos s + 1⟩) hn := by
  have oth : ∀ j, j < hn → j ≠ 0 → (h j).s ≠ s := fun j hj hne e => hne (hH.inj j 0 hj h0 (e.trans e0.symm))
  refine ⟨?_, ?_, ?_, hH.le⟩
  · intro j hj
    by_cases e : j = 0
    · subst e; exact ⟨s, hs, by simpa [updN] using hp, by simp [updP, updN]⟩
    · obtain ⟨t, ht, hpt, ej⟩ := hH.src j hj
      have hts : t ≠ s := by have := oth j hj e; rw [ej] at this; exact this
      exact ⟨t, ht, by simpa [updN, hts] using hpt, by simp [updP, updN, e, hts, ej]⟩
  · intro t ht hpt
    by_cases e : t = s
    · subst e; exact ⟨0, h0, by simp [updP, updN]⟩
    · simp [updN, e] at hpt
      obtain ⟨j, hj, ej⟩ := hH.all t ht hpt
      have hj0 : j ≠ 0 := by rintro rfl; rw [ej] at e0; exact e e0
      exact ⟨j, hj, by simp [updP, updN, e, hj0, ej]⟩
  · intro a b ha hb e
    by_cases a0 : a = 0 <;> by_cases b0 : b = 0
    · omega
    · subst a0; simp [updP, b0] at e; exact absurd e.symm (oth b hb b0)
    · subst b0; simp [updP, a0] at e; exact absurd e (oth a ha a0)
    · simp [updP, a0, b0] at e; exact hH.inj a b ha hb e

/-- The root is gone: the last takes its place. -/
theorem Heads.drop (hH : Heads n key pos S h hn) (h0 : 0 < hn) {s : Nat} (e0 : (h 0).s = s) (hp : ¬ pos s + 1 < n s) :
    Heads n key (updN pos s (pos s + 1)) S (updP h 0 (h (hn - 1))) (hn - 1) := by
  have oth : ∀ j, j < hn → j ≠ 0 → (h j).s ≠ s := fun j hj hne e => hne (hH.inj j 0 hj h0 (e.trans e0.symm))
  refine ⟨?_, ?_, ?_, by have := hH.le; omega⟩
  · intro j hj
    by_cases e : j = 0
    · subst e
      obtain ⟨t, ht, hpt, ej⟩ := hH.src (hn - 1) (by omega)
      have hts : t ≠ s := by have := oth (hn - 1) (by omega) (by omega); rw [ej] at this; exact this
      exact ⟨t, ht, by simpa [updN, hts] using hpt, by simp [updP, updN, hts, ej]⟩
    · obtain ⟨t, ht, hpt, ej⟩ := hH.src j (by omega)
      have hts : t ≠ s := by have := oth j (by omega) e; rw [ej] at this; exact this
      exact ⟨t, ht, by simpa [updN, hts] using hpt, by simp [updP, updN, e, hts, ej]⟩
  · intro t ht hpt
    by_cases e : t = s
    · subst e; simp [updN] at hpt; omega
    · simp [updN, e] at hpt
      obtain ⟨j, hj, ej⟩ := hH.all t ht hpt
      have hj0 : j ≠ 0 := by rintro rfl; rw [ej] at e0; exact e e0
      by_cases el : j = hn - 1
      · exact ⟨0, by omega, by simp [updP, updN, e, ← el, ej]⟩
      · exact ⟨j, by omega, by simp [updP, updN, e, hj0, ej]⟩
  · intro a b ha hb e
    by_cases a0 : a = 0 <;> by_cases b0 : b = 0
    · omega
    · subst a0; simp [updP, b0] at e; have := hH.inj (hn - 1) b (by omega) (by omega) e; omega
    · subst b0; simp [updP, a0] at e; have := hH.inj a (hn - 1) (by omega) (by omega) e; omega
    · simp [updP, a0, b0] at e; exact hH.inj a b (by omega) (by omega) e

theorem Ok.root {m : Nat} (hO : Ok h hn 0) (p : Pl) (hm : m ≤ hn) : Ok (updP h 0 p) m 1 := by
  intro c h0 h1 h2
  have := hO c h0 (by omega) (by omega)
  simp only [updP, show c ≠ 0 by omega, show (c - 1) / 2 ≠ 0 by omega, if_false]
  exact this

end Go.Proofs.Ybulkbbhy.Mg
