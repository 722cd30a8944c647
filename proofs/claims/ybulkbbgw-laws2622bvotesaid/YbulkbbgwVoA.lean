/-
  The small functions on the road of LawS2622BVote by their contracts: Reading (5), Value (14), cmp.isNaN (19), cmp.Compare (18), inFrame (12) with its closure (17), BinarySearchFunc (16).
-/
import Derived.Test.YbulkbbgwRows
import Derived.WalkKit
import Derived.WalkSpells
import Derived.OpenShut
import Derived.Deep.QuietTactic
import Derived.BigQuiet
import Derived.BigRegion
import Derived.Deep.RegionWith
import Derived.Deep.RegionHeld3
import Derived.Deep.DeepFit
import Derived.Deep.LoopGhost
import Derived.Deep.DeepCutAuto
import Derived.Laws.Rows
import Derived.OneCell
import Derived.Lib.Walk
namespace Go.Proofs.Ybulkbbgw.Vo
open Go.RowKit

theorem hide {p : Prop} (h : p) : Hid p := h

/-- A Report. -/
structure Rp where
  v : Int
  p : Bool
deriving DecidableEq

def Rp.val (r : Rp) : Value := .agg #[.int .i64 r.v, .bool r.p]

/-- Reading. -/
theorem reading_any (v : Int) (w : World) : Calls Yba.prog 5 #[.int .i64 v] w fun e w' => e = .returned (.agg #[.int .i64 v, .bool true]) ∧ w' = w.alloc (.cells #[.int .i64 v, .bool true] 49) := by
  go_enter Yba.func5, Yba.ntmps5
  go_wp2
  exact bodyPost_ret (v := .agg #[.int .i64 v, .bool true]) (by simp [results, Yba.results5, go_sem]) rfl ⟨rfl, rfl⟩

/-- cmp.isNaN. -/
theorem isNaN_any (v : Int) (w : World) : Calls Yba.prog 19 #[.int .i64 v] w fun e w' => e = .returned (.bool false) ∧ w = w' := by
  go_enter Yba.func19, Yba.ntmps19
  go_wp2
  go_ret
  exact ⟨rfl, rfl⟩

/-- Report.Value. -/
theorem value_any (r : Rp) (w : World) : Calls Yba.prog 14 #[.agg #[.int .i64 r.v, .bool r.p]] w fun e w' => e = .returned (.tuple #[.int .i64 r.v, .bool r.p]) ∧ Below w.heap.size w w' := by
  have HB := hide ((Below.refl w.heap.size w).alloc (Nat.le_refl _) (.cells #[.int .i64 r.v, .bool r.p] 49))
  go_enter Yba.func14, Yba.ntmps14
  go_wp2
  go_quiet (fail)
  go_wp2
  go_ret2
  exact ⟨rfl, ⟨HB.out.os, HB.out.tape, HB.out.output, HB.out.size, HB.out.block⟩⟩

/-- cmp.Compare, at numbers of which the first is not less. -/
theorem compare_any (x y : Int) (r : Int) (w : World) (hr : (x < y → r = -1) ∧ (x = y → r = 0) ∧ (y < x → r = 1)) : Calls Yba.prog 18 #[.int .i64 x, .int .i64 y] w fun e w' => e = .returned (.int .i64 r) ∧ w = w' := by
  by_cases h1 : x < y
  · obtain rfl := hr.1 h1
    clear hr
    go_enter Yba.func18, Yba.ntmps18
    go_wp2_with (go_at_call 19; refine (isNaN_any _ _).mono ?_; rintro e w' ⟨rfl, rfl⟩)
    go_ret
    exact ⟨rfl, rfl⟩
  · by_cases h2 : y < x
    · obtain rfl := hr.2.2 h2
      clear hr
      go_enter Yba.func18, Yba.ntmps18
      go_wp2_with (go_at_call 19; refine (isNaN_any _ _).mono ?_; rintro e w' ⟨rfl, rfl⟩)
      go_ret
      exact ⟨rfl, rfl⟩
    · obtain rfl : x = y := by omega
      obtain rfl := hr.2.1 rfl
      clear hr h1 h2
      go_enter Yba.func18, Yba.ntmps18
      go_wp2_with (go_at_call 19; refine (isNaN_any _ _).mono ?_; rintro e w' ⟨rfl, rfl⟩)
      go_ret
      exact ⟨rfl, rfl⟩

/-- The comparing closure of inFrame. -/
theorem cmpf_any (fr ce f r : Int) (w : World) (hr : (fr < f → r = -1) ∧ (fr = f → r = 0) ∧ (f < fr → r = 1)) : Calls Yba.prog 17 #[.agg #[.int .i64 fr, .int .i64 ce], .int .i64 f] w fun e w' => e = .returned (.int .i64 r) ∧ w' = w.alloc (.cells #[.int .i64 fr, .int .i64 ce] 28) := by
  have HC := fun w' => hide (compare_any fr f r w' hr)
  clear hr
  go_enter Yba.func17, Yba.ntmps17
  go_wp2_with (go_at_call 18; refine (HC _).out.mono ?_; rintro e w' ⟨rfl, rfl⟩)
  go_ret
  exact ⟨rfl, rfl⟩
/-- The votes: C slots of frame 1, one of frame 2. -/
def Slots (w : World) (vb C : Nat) : Prop := ∀ x, x ≤ C → w.cell? ⟨vb, x * 2, none⟩ = some (.int .i64 (if x < C then 1 else 2)) ∧ w.cell? ⟨vb, x * 2 + 1, none⟩ = some (.int .i64 x)
theorem Slots.below {B : Nat} {w w' : World} {vb C : Nat} (h : Slots w vb C) (hb : Below B w w') (hv : vb < B) : Slots w' vb C :=
  fun x hx => ⟨(hb.cell (p := ⟨vb, x * 2, none⟩) hv).trans (h x hx).1, (hb.cell (p := ⟨vb, x * 2 + 1, none⟩) hv).trans (h x hx).2⟩

set_option maxRecDepth 20000 in
set_option maxHeartbeats 1000000 in
theorem bsearch_any (vb C cap : Nat) (w : World) (hS : Slots w vb C) (hC : 1 ≤ C) (hC4 : C ≤ 4) (hv : vb < w.heap.size) :
    Calls Yba.prog 16 #[.slice (some ⟨vb, 0, none⟩) (C + 1) cap, .int .i64 1, .func (Fn.func 17) #[] #[]] w fun e w' => e = .returned (.tuple #[.int .i64 0, .bool true]) ∧ Below w.heap.size w w' := by
  have HS := hide hS
  clear hS
  go_enter Yba.func16, Yba.ntmps16
  go_wp2
  go_loopg [9, 10] (C + 1) (fun gk x y wr => ∃ j : Nat, x = .int .i64 0 ∧ y = .int .i64 j ∧ gk = j ∧ j ≤ C + 1 ∧ Below w.heap.size w wr)
  case atStart => exact ⟨C + 1, rfl, congrArg (Value.int .i64) (by omega), rfl, Nat.le_refl _, Below.refl _ _⟩
  case round =>
    obtain ⟨j, rfl, rfl, hgk, hj, hb⟩ := hrel
    have hS := HS.out.below hb hv
    by_cases h0 : j = 0
    · obtain ⟨c0, c1⟩ := hS 0 (by omega)
      rw [if_pos (by omega)] at c0
      simp only [Nat.zero_mul, Nat.zero_add] at c0 c1
      have HB := hide hb
      clear hS hb
      subst h0
      go_wp2_with (go_at_call 17; refine (cmpf_any 1 _ 1 0 _ (by omega)).mono ?_; rintro e w' ⟨rfl, rfl⟩)
      go_ret2
      exact ⟨rfl, HB.out.alloc HB.out.size _⟩
    · obtain ⟨h, hh⟩ : ∃ h, j / 2 = h := ⟨_, rfl⟩
      obtain ⟨c0, c1⟩ := hS h (by omega)
      obtain ⟨fr, hfr⟩ : ∃ fr : Int, (if h < C then 1 else 2) = fr := ⟨_, rfl⟩
      obtain ⟨r, hr, hr0⟩ : ∃ r : Int, ((fr < 1 → r = -1) ∧ (fr = 1 → r = 0) ∧ (1 < fr → r = 1)) ∧ ¬ r < 0 := by
        by_cases hl : h < C
        · rw [if_pos hl] at hfr; exact ⟨0, by omega, by omega⟩
        · rw [if_neg hl] at hfr; exact ⟨1, by omega, by omega⟩
      rw [hfr] at c0
      have hrd : decide (r < 0) = false := decide_eq_false hr0
      have K17 := fun w' => hide (cmpf_any fr h 1 r w' hr)
      have HB := hide hb
      clear hS hb hr hfr
      have hjb : (j : Int) ≤ 5 := by omega
      have hj0 : (0 : Int) < (j : Int) := by omega
      go_wp2_with (go_at_call 17; refine (K17 _).out.mono ?_; rintro e w' ⟨rfl, rfl⟩)
      go_roundg h
      case measure => omega
      case rel => exact ⟨h, rfl, congrArg (Value.int .i64) (by omega), rfl, by omega, HB.out.alloc HB.out.size _⟩

set_option maxRecDepth 20000 in
set_option maxHeartbeats 1000000 in
/-- inFrame, of frame 1. -/
theorem inFrame_any (vb C cap : Nat) (w : World) (hS : Slots w vb C) (hC : 1 ≤ C) (hC4 : C ≤ 4) (hcap : C + 1 ≤ cap) (hv : vb < w.heap.size) :
    Calls Yba.prog 12 #[.slice (some ⟨vb, 0, none⟩) (C + 1) cap, .int .i64 1] w fun e w' => e = .returned (.slice (some ⟨vb, 0, none⟩) C cap) ∧ Below w.heap.size w w' := by
  have K16 := hide (bsearch_any vb C cap w hS hC hC4 hv)
  have HS := hide hS
  clear hS
  go_enter Yba.func12, Yba.ntmps12
  go_wp2_with (go_at_call 16; refine K16.out.mono ?_; rintro e w1 ⟨rfl, hb⟩; have HB := hide hb; clear hb)
  go_loopg [7] C (fun gk y wr => ∃ j : Nat, y = .int .i64 j ∧ gk + j = C ∧ w1 = wr)
  case atStart => exact ⟨0, rfl, by omega, rfl⟩
  case round =>
    obtain ⟨j, rfl, hgk, rfl⟩ := hrel
    obtain ⟨c0, c1⟩ := HS.out.below HB.out hv j (by omega)
    have hjC : (j : Int) < (C : Int) + 1 := by omega
    by_cases h : j < C
    · rw [if_pos h] at c0
      go_wp2
      go_roundg (C - (j + 1))
      case measure => omega
      case rel => exact ⟨j + 1, by go_num, by omega, rfl⟩
    · rw [if_neg h] at c0
      obtain rfl : j = C := by omega
      have hq : (j : Int) ≤ (cap : Int) := by omega
      go_wp2
      go_ret
      exact ⟨rfl, HB.out⟩
end Go.Proofs.Ybulkbbgw.Vo
