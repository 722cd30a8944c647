/-
  slices.Equal (8, 9, 10) at rows that are alike, slices.Clone (7), BY THEIR CONTRACTS.
-/
import Derived.Test.YbulkbbgwVoE
import Derived.Deep.AppendLies
namespace Go.Proofs.Ybulkbbgw.Vo
open Go.RowKit

set_option maxRecDepth 20000 in
theorem eqS_any (x y n c c' : Nat) (f : Nat → ByteArray) (w : World) (hn : n ≤ 100) (hx : ∀ i, i < n → w.cell? ⟨x, i, none⟩ = some (.string (f i))) (hy : ∀ i, i < n → w.cell? ⟨y, i, none⟩ = some (.string (f i))) :
    Calls Yba.prog 8 #[.slice (some ⟨x, 0, none⟩) n c, .slice (some ⟨y, 0, none⟩) n c'] w fun e w' => e = .returned (.bool true) ∧ ∃ m, w' = w.drewN m := by
  have HX := hide hx
  have HY := hide hy
  clear hx hy
  go_enter Yba.func8, Yba.ntmps8
  go_wp2
  go_loopg [13] n (fun gk y wr => ∃ i m : Nat, y = .int .i64 i ∧ gk + i = n ∧ wr = w.drewN m)
  case atStart => exact ⟨0, 0, rfl, by omega, rfl⟩
  case round =>
    obtain ⟨i, m, rfl, hgk, rfl⟩ := hrel
    by_cases hi : i < n
    · have h1 := HX.out i hi
      have h2 := HY.out i hi
      have hq : (i : Int) < (n : Int) := by omega
      go_wp2
      go_quiet (fail)
      go_wp2
      go_roundg (n - (i + 1))
      case measure => omega
      case rel => exact ⟨i + 1, _, by go_num, by omega, rfl⟩
    · obtain rfl : i = n := by omega
      go_wp2
      go_ret
      exact ⟨rfl, m, rfl⟩

set_option maxRecDepth 20000 in
theorem eqI_any (x y n c c' : Nat) (f : Nat → Int) (w : World) (hn : n ≤ 100) (hx : ∀ i, i < n → w.cell? ⟨x, i, none⟩ = some (.int .i64 (f i))) (hy : ∀ i, i < n → w.cell? ⟨y, i, none⟩ = some (.int .i64 (f i))) :
    Calls Yba.prog 9 #[.slice (some ⟨x, 0, none⟩) n c, .slice (some ⟨y, 0, none⟩) n c'] w fun e w' => e = .returned (.bool true) ∧ ∃ m, w' = w.drewN m := by
  have HX := hide hx
  have HY := hide hy
  clear hx hy
  go_enter Yba.func9, Yba.ntmps9
  go_wp2
  go_loopg [13] n (fun gk y wr => ∃ i m : Nat, y = .int .i64 i ∧ gk + i = n ∧ wr = w.drewN m)
  case atStart => exact ⟨0, 0, rfl, by omega, rfl⟩
  case round =>
    obtain ⟨i, m, rfl, hgk, rfl⟩ := hrel
    by_cases hi : i < n
    · have h1 := HX.out i hi
      have h2 := HY.out i hi
      have hq : (i : Int) < (n : Int) := by omega
      go_wp2
      go_quiet (fail)
      go_wp2
      go_roundg (n - (i + 1))
      case measure => omega
      case rel => exact ⟨i + 1, _, by go_num, by omega, rfl⟩
    · obtain rfl : i = n := by omega
      go_wp2
      go_ret
      exact ⟨rfl, m, rfl⟩

set_option maxRecDepth 20000 in
theorem eqB_any (x y n c c' : Nat) (f : Nat → Bool) (w : World) (hn : n ≤ 100) (hx : ∀ i, i < n → w.cell? ⟨x, i, none⟩ = some (.bool (f i))) (hy : ∀ i, i < n → w.cell? ⟨y, i, none⟩ = some (.bool (f i))) :
    Calls Yba.prog 10 #[.slice (some ⟨x, 0, none⟩) n c, .slice (some ⟨y, 0, none⟩) n c'] w fun e w' => e = .returned (.bool true) ∧ ∃ m, w' = w.drewN m := by
  have HX := hide hx
  have HY := hide hy
  clear hx hy
  go_enter Yba.func10, Yba.ntmps10
  go_wp2
  go_loopg [13] n (fun gk y wr => ∃ i m : Nat, y = .int .i64 i ∧ gk + i = n ∧ wr = w.drewN m)
  case atStart => exact ⟨0, 0, rfl, by omega, rfl⟩
  case round =>
    obtain ⟨i, m, rfl, hgk, rfl⟩ := hrel
    by_cases hi : i < n
    · have h1 := HX.out i hi
      have h2 := HY.out i hi
      have hq : (i : Int) < (n : Int) := by omega
      go_wp2
      go_quiet (fail)
      go_wp2
      go_roundg (n - (i + 1))
      case measure => omega
      case rel => exact ⟨i + 1, _, by go_num, by omega, rfl⟩
    · obtain rfl : i = n := by omega
      go_wp2
      go_ret
      exact ⟨rfl, m, rfl⟩

/-- Block b begins with n cells f. -/
def RowGe (w : World) (b : Nat) (t : TypeId) (n : Nat) (f : Nat → Value) : Prop := ∃ cur : Array Value, w.heap[b]? = some (.cells cur t (0, 0)) ∧ n ≤ cur.size ∧ ∀ i, i < n → cur[i]? = some (f i)
section
variable {w w' : World} {b : Nat} {t : TypeId} {n : Nat} {f g : Nat → Value}
theorem RowGe.cell (h : RowGe w b t n f) {i : Nat} (hi : i < n) : w.cell? ⟨b, i, none⟩ = some (f i) := by
  obtain ⟨c, hb, _, hc⟩ := h; rw [cell_of_row _ _ _ _ _ _ hb]; exact hc i hi
theorem RowGe.frozen (h : RowGe w b t n f) (i : Nat) : w.frozen? ⟨b, i, none⟩ = false := by
  obtain ⟨c, hb, _, hc⟩ := h; exact frozen_of_row _ _ _ _ _ hb
theorem RowGe.lt (h : RowGe w b t n f) : b < w.heap.size := by obtain ⟨c, hb, _⟩ := h; exact lt_of_block hb
theorem RowGe.congr (h : RowGe w b t n f) (e : ∀ i, i < n → f i = g i) : RowGe w b t n g := by
  obtain ⟨c, hb, hn, hc⟩ := h; exact ⟨c, hb, hn, fun i hi => by rw [hc i hi, e i hi]⟩
theorem RowGe.of_block (h : RowGe w b t n f) (e : w'.heap[b]? = w.heap[b]?) : RowGe w' b t n f := by
  obtain ⟨c, hb, hn, hc⟩ := h; exact ⟨c, e.trans hb, hn, hc⟩
theorem RowGe.set (h : RowGe w b t n f) (i : Nat) (v : Value) : RowGe (w.setCell ⟨b, i, none⟩ v) b t n (fun j => if j = i then v else f j) := by
  obtain ⟨c, hb, hn, hc⟩ := h
  refine ⟨c.setIfInBounds i v, heap_setCell_same _ _ _ _ _ _ hb, by simpa using hn, fun j hj => ?_⟩
  rw [Array.getElem?_setIfInBounds]
  by_cases e : i = j
  · subst e; simp [Nat.lt_of_lt_of_le hj hn]
  · rw [if_neg e]; simp only [if_neg (Ne.symm e)]; exact hc j hj
theorem RowGe.of_is (h : w.rowIs b t n f) : RowGe w b t n f := by
  obtain ⟨c, hb, hn, hc⟩ := h; exact ⟨c, hb, by omega, hc⟩
theorem RowGe.of_owns {base cap : Nat} {xs : List Value} (h : w.ownsRow base t 1 (.slice (some ⟨b, 0, none⟩) n cap) n xs) (e : ∀ i, i < n → xs[i]? = some (f i)) : RowGe w b t n f := by
  obtain ⟨_, ⟨hv, _⟩ | ⟨g', cap', cur, hv, _, hh, h1, h2, h3, h4⟩⟩ := h
  · simp at hv
  · simp at hv
    obtain ⟨rfl, rfl⟩ := hv
    refine ⟨cur, hh, by rw [h3]; omega, fun i hi => ?_⟩
    have : cur[i]? = xs[i]? := by
      rw [← h4, List.getElem?_take_of_lt (by omega)]; simp
    rw [this]; exact e i hi
end
theorem addr_add (b off j : Nat) : (⟨b, off, none⟩ : Addr).add j = ⟨b, off + j, none⟩ := by
  unfold Addr.add; split <;> simp_all
def appG (ats : Array TypeId) (ty : TypeId) (args : Array Value) : Sem Value := Builtin.append_ ats ty args
theorem app_g (ats : Array TypeId) (ty : TypeId) (args : Array Value) : Builtin.append_ ats ty args = appG ats ty args := rfl
attribute [local go_sem ↓] app_g

set_option maxRecDepth 20000 in
theorem clone_any (x n c : Nat) (f : Nat → Int) (w : World) (hn : 0 < n) (hn' : n ≤ 100) (hx : ∀ i, i < n → w.cell? ⟨x, i, none⟩ = some (.int .i64 (f i))) :
    Calls Yba.prog 7 #[.slice (some ⟨x, 0, none⟩) n c] w fun e w' => ∃ g cap, e = .returned (.slice (some ⟨g, 0, none⟩) n cap) ∧ Below w.heap.size w w' ∧ w.heap.size ≤ g ∧ RowGe w' g 2 n (fun i => .int .i64 (f i)) := by
  obtain ⟨i0, hi, hz0, hz1, hz2⟩ := info_parts Yba.info2
  have hxl : x < w.heap.size := by simpa using World.block_lt_of_cell? _ _ (hx 0 hn)
  have own0 : (w.alloc (.cells #[] 2)).ownsRow w.heap.size 2 1 (.slice (some ⟨w.heap.size, 0, none⟩) 0 0) 0 [] := ⟨by simp, .inr ⟨w.heap.size, 0, #[], rfl, Nat.le_refl _, heap_alloc_new _ _, Nat.le_refl _, by simp, by simp, by simp⟩⟩
  obtain ⟨g, cap, w1, hrun, hown, hgrow, hat, hglt⟩ := run_append_lies (P := Yba.prog) (w.alloc (.cells #[] 2)) 36 36 w.heap.size 2 i0 (.int .i64 0) 1 8 Yba.underlying36 hi hz0 hz1 hz2 rfl (by decide) _ 0 [] own0 ⟨x, 0, none⟩ n c ((List.range n).map fun i => .int .i64 (f i)) (by simp)
    (by
      intro j u hj
      have hjn : j < n := by
        rcases Nat.lt_or_ge j n with h | h
        · exact h
        · rw [List.getElem?_eq_none (by simpa using h)] at hj; cases hj
      have e : u = .int .i64 (f j) := by simpa [hjn] using hj.symm
      rw [e, addr_add, Nat.zero_add]
      exact (World.cell?_alloc_past _ _ _ hxl).trans (hx j hjn))
    (by intro u hu; simp at hu; obtain ⟨a, _, rfl⟩ := hu; rfl) hn (by unfold maxLen; omega) (by omega) (by simp) _ rfl
  rw [app_g, Nat.zero_add] at hrun
  have heq : ∀ w, (binOp .eql 36 (.slice (some ⟨x, 0, none⟩) n c) (.slice none 0 0)).run Yba.prog w = .ok (.bool false) w := fun w => Lib.run_eql_slice_nil w 36 2 _ _ _ _ _ Yba.underlying36
  have HX := hide (And.intro hown (And.intro hgrow hat))
  clear hown hgrow hat hx own0
  go_enter Yba.func7, Yba.ntmps7
  go_wp2
  go_ret
  have hb0 := (Below.refl w.heap.size w).alloc (Nat.le_refl _) (.cells #[] 2)
  refine ⟨g, cap, rfl, hb0.grown HX.out.2.1 hb0.size (fun k e => by simp [Value.ownBlock] at e; omega), ?_, RowGe.of_owns (by simpa using HX.out.1) (fun i hi => by simp [hi])⟩
  rcases HX.out.2.2 with e | e
  · simp [Value.ownBlock] at e; omega
  · simp at e; omega
end Go.Proofs.Ybulkbbgw.Vo
