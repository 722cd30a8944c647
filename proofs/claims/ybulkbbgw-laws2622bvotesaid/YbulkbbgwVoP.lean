/-
  The plain matter of the vote: the report that more than half hold, if there is one, is what Majority gives; the reports of the nodes that are in, in order. No Go in sight.
-/
import Derived.Test.YbulkbbgwVoC
namespace Go.Proofs.Ybulkbbgw.Vo

theorem bm_inv (f : Nat → Rp) : ∀ k, (2 * cnt f (bm f k).1 k ≤ k + (bm f k).2) ∧ (∀ v, v ≠ (bm f k).1 → 2 * cnt f v k + (bm f k).2 ≤ k)
  | 0 => ⟨by simp [cnt], fun v _ => by simp [cnt, bm]⟩
  | k + 1 => by
    obtain ⟨h1, h2⟩ := bm_inv f k
    have hall : ∀ v, 2 * cnt f v k ≤ k + (bm f k).2 := fun v => by
      by_cases e : v = (bm f k).1
      · rw [e]; exact h1
      · have := h2 v e; omega
    by_cases hl : (bm f k).2 = 0
    · have e : bm f (k + 1) = (f k, 1) := by simp only [bm]; rw [if_pos hl]
      rw [e]
      refine ⟨?_, fun v hv => ?_⟩
      · simp only [cnt, if_true]; have := hall (f k); omega
      · simp only [cnt, if_neg (Ne.symm hv)]; have := hall v; omega
    · by_cases hf : f k = (bm f k).1
      · have e : bm f (k + 1) = ((bm f k).1, (bm f k).2 + 1) := by simp only [bm]; rw [if_neg hl, if_pos hf]
        rw [e]
        refine ⟨?_, fun v hv => ?_⟩
        · simp only [cnt, if_pos hf]; omega
        · have hne : ¬ f k = v := fun h => hv (by rw [← h, hf])
          simp only [cnt, if_neg hne]; have := h2 v hv; omega
      · have e : bm f (k + 1) = ((bm f k).1, (bm f k).2 - 1) := by simp only [bm]; rw [if_neg hl, if_neg hf]
        rw [e]
        refine ⟨?_, fun v hv => ?_⟩
        · simp only [cnt, if_neg hf]; omega
        · have := h2 v hv
          simp only [cnt]
          split <;> omega

/-- A report that more than half hold is the one that Majority gives. -/
theorem maj_win {f : Nat → Rp} {L : Nat} {v : Rp} (h : L < 2 * cnt f v L) : maj f L = (v, true) := by
  have hv : v = (bm f L).1 := by
    by_cases e : v = (bm f L).1
    · exact e
    · have := (bm_inv f L).2 v e; omega
  unfold maj
  rw [← hv, if_pos h]
theorem cnt_pos {f : Nat → Rp} {v : Rp} : ∀ {k : Nat}, 0 < cnt f v k → ∃ j, j < k ∧ f j = v
  | 0, h => by simp [cnt] at h
  | k + 1, h => by
    by_cases e : f k = v
    · exact ⟨k, by omega, e⟩
    · simp only [cnt, if_neg e] at h
      obtain ⟨j, hj, e2⟩ := cnt_pos (k := k) (by omega)
      exact ⟨j, by omega, e2⟩
theorem maj_none {f : Nat → Rp} {L : Nat} (h : ∀ j, j < L → ¬ L < 2 * cnt f (f j) L) : maj f L = (⟨0, false⟩, false) := by
  unfold maj
  rw [if_neg]
  intro hw
  obtain ⟨j, hj, e⟩ := cnt_pos (f := f) (v := (bm f L).1) (k := L) (by omega)
  exact h j hj (by rw [e]; exact hw)

/-- The reports of those of the first n nodes that are in. -/
def rl (inn : Nat → Bool) (rp : Nat → Rp) : Nat → List Rp
  | 0 => []
  | n + 1 => rl inn rp n ++ (if inn n = true then [rp n] else [])
theorem rl_length (inn : Nat → Bool) (rp : Nat → Rp) : ∀ n, (rl inn rp n).length = idx inn n
  | 0 => rfl
  | n + 1 => by
    simp only [rl, idx, List.length_append, rl_length inn rp n]
    split <;> rfl
theorem idx_mono (inn : Nat → Bool) {a b : Nat} (h : a ≤ b) : idx inn a ≤ idx inn b := by
  induction b with
  | zero => have : a = 0 := by omega
            subst this; exact Nat.le_refl _
  | succ b ih =>
    by_cases e : a = b + 1
    · subst e; exact Nat.le_refl _
    · have := ih (by omega); simp only [idx]; omega
theorem rl_at (inn : Nat → Bool) (rp : Nat → Rp) {m : Nat} (hm : inn m = true) : ∀ {n : Nat}, m < n → (rl inn rp n)[idx inn m]? = some (rp m)
  | 0, h => absurd h (by omega)
  | n + 1, h => by
    simp only [rl]
    by_cases e : m = n
    · subst e
      rw [List.getElem?_append_right (by rw [rl_length]; exact Nat.le_refl _), rl_length, Nat.sub_self, if_pos hm]
      rfl
    · have hlt : m < n := by omega
      rw [List.getElem?_append_left]
      · exact rl_at inn rp hm hlt
      · rw [rl_length]
        have h1 := idx_mono inn (a := m + 1) (b := n) hlt
        simp only [idx, if_pos hm] at h1
        omega
/-- The x-th of them. -/
def rf (inn : Nat → Bool) (rp : Nat → Rp) (N x : Nat) : Rp := (rl inn rp N)[x]?.getD ⟨0, false⟩
theorem rf_at {inn : Nat → Bool} {rp : Nat → Rp} {m N : Nat} (hm : inn m = true) (h : m < N) : rf inn rp N (idx inn m) = rp m := by
  unfold rf; rw [rl_at inn rp hm h]; rfl
theorem idx_lt {inn : Nat → Bool} {m N : Nat} (hm : inn m = true) (h : m < N) : idx inn m < idx inn N := by
  have h1 := idx_mono inn (a := m + 1) (b := N) h
  simp only [idx, if_pos hm] at h1
  omega

/-! ### The vote -/
section
variable (inn : Nat → Bool) (N : Nat) (ctr : Nat → Rp) (bal : Nat → Nat → Rp)
/-- Node n's report of cell i. -/
def repI (i n : Nat) : Rp := if ctr n = ⟨1, true⟩ then bal n i else ⟨0, false⟩
/-- What the vote of cell i gives. -/
def wonI (i : Nat) : Rp := (maj (rf inn (repI ctr bal i) N) (idx inn N)).1
def cellA (start : Nat → Int) (k c : Nat) : Int := if c < k ∧ (wonI inn N ctr bal c).p = true then (wonI inn N ctr bal c).v else start c
def lostA : Nat → Nat → Bool
  | 0 => fun _ => false
  | k + 1 => if (wonI inn N ctr bal k).p = true then lostF inn (repI ctr bal k) (wonI inn N ctr bal k) (lostA k) N else lostA k
def failA (pre : ByteArray) (nm : Nat → ByteArray) : Nat → List ByteArray
  | 0 => [pre]
  | k + 1 => failA pre nm k ++ (if (wonI inn N ctr bal k).p = true then [] else [nm k])
theorem failA_length (pre : ByteArray) (nm : Nat → ByteArray) : ∀ k, 1 ≤ (failA inn N ctr bal pre nm k).length ∧ (failA inn N ctr bal pre nm k).length ≤ k + 1
  | 0 => by simp [failA]
  | k + 1 => by
    have := failA_length pre nm k
    simp only [failA, List.length_append]
    split <;> simp <;> omega
end
end Go.Proofs.Ybulkbbgw.Vo
