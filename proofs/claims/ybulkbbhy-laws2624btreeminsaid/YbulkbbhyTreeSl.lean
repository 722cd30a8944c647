/-
  trigrove.shortestLong (function 11) BY ITS CONTRACT: over a tree that lies in memory. It only reads: the world behind it is the world before but for draws.
-/
import Derived.Test.YbulkbbhyRows
import Derived.Test.YbulkbbhyTreePlain
import Derived.WalkKit
import Derived.WalkSpells
import Derived.OpenShut
import Derived.Deep.QuietTactic
import Derived.BigQuiet
namespace Go.Proofs.Ybulkbbhy.Tree
open Go.RowKit

/-- A node's own value. -/
def own (op mn mx : Int) : Int := if op = 17 ∧ mn + 64 ≤ mx then mx else 0

/-- What a node of the tree holds, as far as shortestLong reads it. -/
structure NodeAt (w : World) (b : Nat) (op mn mx : Int) (ao : Option Addr) (len cap : Nat) : Prop where
  c0 : w.cell? ⟨b, 0, none⟩ = some (.int .u8 op)
  c2 : w.cell? ⟨b, 2, none⟩ = some (.slice ao len cap)
  c7 : w.cell? ⟨b, 7, none⟩ = some (.int .i64 mn)
  c8 : w.cell? ⟨b, 8, none⟩ = some (.int .i64 mx)

theorem hide {p : Prop} (h : p) : Hid p := h
theorem unhide {p : Prop} (h : Hid p) : p := h.out
theorem cases4 {r s : Int} (hr : 0 ≤ r) (hs : 0 ≤ s) : (r = 0) ∨ (0 < r ∧ s = 0) ∨ (0 < r ∧ 0 < s ∧ (s == 0) = false ∧ r < s) ∨ (0 < r ∧ 0 < s ∧ (s == 0) = false ∧ s ≤ r ∧ decide (r < s) = false) := by
  by_cases h1 : r = 0
  · exact .inl h1
  by_cases h2 : s = 0
  · exact .inr (.inl ⟨by omega, h2⟩)
  by_cases h3 : r < s
  · exact .inr (.inr (.inl ⟨by omega, by omega, by simpa using h2, h3⟩))
  · exact .inr (.inr (.inr ⟨by omega, by omega, by simpa using h2, by omega, by simpa using h3⟩))
theorem ret_int {k : IntKind} {a b : Int} (h : a = b) : Ending.returned (.int k a) = .returned (.int k b) := by rw [h]

def acc (R : Nat → Int) (s : Int) (t : Nat) : Int := (List.range t).foldl (fun s i => comb s (R i)) s
theorem acc_succ (R : Nat → Int) (s : Int) (t : Nat) : acc R s (t + 1) = comb (acc R s t) (R t) := by simp [acc, List.range_succ]
theorem acc_nonneg (R : Nat → Int) (s : Int) (hs : 0 ≤ s) : ∀ t, 0 ≤ acc R s t
  | 0 => by simpa [acc] using hs
  | t + 1 => by rw [acc_succ]; exact comb_nonneg (acc_nonneg R s hs t)

set_option maxHeartbeats 1000000 in
theorem sl_step (w : World) (b gb : Nat) (op mn mx : Int) (ao : Option Addr) (len cap : Nat) (g : Nat → Nat) (R : Nat → Int)
    (hN : NodeAt w b op mn mx ao len cap) (hlen : len ≤ 9223372036854775807) (hmn : 0 ≤ mn) (hmn' : mn ≤ 1000000) (hmx : 0 ≤ mx)
    (hR : ∀ t, 0 ≤ R t)
    (hao : 0 < len → ao = some ⟨gb, 0, none⟩)
    (hc : ∀ t, t < len → w.cell? ⟨gb, t, none⟩ = some (.pointer (some ⟨g t, 0, none⟩)))
    (hrec : ∀ t, t < len → ∀ m, Calls Yba.prog 11 #[.pointer (some ⟨g t, 0, none⟩)] (w.drewN m) fun e w' => e = .returned (.int .i64 (R t)) ∧ ∃ m', w' = w.drewN m') :
    Calls Yba.prog 11 #[.pointer (some ⟨b, 0, none⟩)] w fun e w' => e = .returned (.int .i64 (acc R (own op mn mx) len)) ∧ ∃ m, w' = w.drewN m := by
  obtain ⟨c0, c2, c7, c8⟩ := hN
  have HA : Hid (0 < len → ao = some ⟨gb, 0, none⟩) := hao
  have HR : Hid (∀ t, 0 ≤ R t) := hR
  have HC : Hid (∀ t, t < len → w.cell? ⟨gb, t, none⟩ = some (.pointer (some ⟨g t, 0, none⟩))) := hc
  have HQ : Hid (∀ t, t < len → ∀ m, Calls Yba.prog 11 #[.pointer (some ⟨g t, 0, none⟩)] (w.drewN m) fun e w' => e = .returned (.int .i64 (R t)) ∧ ∃ m', w' = w.drewN m') := hrec
  clear hao hR hc hrec
  have HO : Hid (0 ≤ own op mn mx) := by
    show 0 ≤ own op mn mx
    unfold own; split <;> omega
  by_cases h17 : (op == 17) = true
  · by_cases hge : mn + 64 ≤ mx
    · have hd : decide (mn + 64 ≤ mx) = true := by simpa using hge
      have HX : Hid (own op mn mx = mx) := by
        have : op = 17 := by simpa using h17
        show own op mn mx = mx
        simp [own, this, hge]
      go_enter Yba.func11, Yba.ntmps11
      go_wp2
      go_quiet (fail)
      go_wp2
      go_loopw [3, 33] (fun s i wr => ∃ (t m : Nat), t ≤ len ∧ i = .int .i64 t ∧ s = .int .i64 (acc R (own op mn mx) t) ∧ wr = w.drewN m) (fun _ i _ => len - (intOf i).toNat)
      case atStart => exact ⟨0, _, Nat.zero_le _, rfl, congrArg (Value.int .i64) (by rw [HX.out]; rfl), rfl⟩
      case round =>
        obtain ⟨t, m, ht, rfl, rfl, rfl⟩ := hrel
        by_cases hlt : t < len
        · obtain rfl := HA.out (by omega)
          have hcell := HC.out t hlt
          have hr0 := HR.out t
          have hs0 := acc_nonneg R _ HO.out t
          have hq := fun m => HQ.out t hlt m
          have HQt := hide hq
          have HS : Hid (acc R (own op mn mx) (t + 1) = comb (acc R (own op mn mx) t) (R t)) := acc_succ R _ t
          clear hq
          obtain ⟨s, hs⟩ : ∃ s, acc R (own op mn mx) t = s := ⟨_, rfl⟩
          rw [hs] at hs0 ⊢
          have HSS := hide hs
          clear hs
          rcases cases4 hr0 hs0 with h | ⟨h1, h2⟩ | ⟨h1, h2, h4, h3⟩ | ⟨h1, h2, h4, h3, h5⟩
          all_goals
            go_wp2_with (go_at_call 11; refine ((unhide HQt) _).mono ?_; rintro e w' ⟨rfl, m', rfl⟩)
            go_roundw
            case rel => exact ⟨t + 1, _, by omega, by go_num, congrArg (Value.int .i64) (by rw [HS.out, HSS.out]; unfold comb; split <;> omega), rfl⟩
            case measure => simp [intOf]; omega
        · obtain rfl : t = len := by omega
          go_wp2
          go_ret
          exact ⟨rfl, _, rfl⟩
    · have hd : decide (mn + 64 ≤ mx) = false := by simpa using hge
      have HX : Hid (own op mn mx = 0) := by
        show own op mn mx = 0
        simp [own, hge]
      go_enter Yba.func11, Yba.ntmps11
      go_wp2
      go_quiet (fail)
      go_wp2
      go_loopw [3, 33] (fun s i wr => ∃ (t m : Nat), t ≤ len ∧ i = .int .i64 t ∧ s = .int .i64 (acc R (own op mn mx) t) ∧ wr = w.drewN m) (fun _ i _ => len - (intOf i).toNat)
      case atStart => exact ⟨0, _, Nat.zero_le _, rfl, congrArg (Value.int .i64) (by rw [HX.out]; rfl), rfl⟩
      case round =>
        obtain ⟨t, m, ht, rfl, rfl, rfl⟩ := hrel
        by_cases hlt : t < len
        · obtain rfl := HA.out (by omega)
          have hcell := HC.out t hlt
          have hr0 := HR.out t
          have hs0 := acc_nonneg R _ HO.out t
          have hq := fun m => HQ.out t hlt m
          have HQt := hide hq
          have HS : Hid (acc R (own op mn mx) (t + 1) = comb (acc R (own op mn mx) t) (R t)) := acc_succ R _ t
          clear hq
          obtain ⟨s, hs⟩ : ∃ s, acc R (own op mn mx) t = s := ⟨_, rfl⟩
          rw [hs] at hs0 ⊢
          have HSS := hide hs
          clear hs
          rcases cases4 hr0 hs0 with h | ⟨h1, h2⟩ | ⟨h1, h2, h4, h3⟩ | ⟨h1, h2, h4, h3, h5⟩
          all_goals
            go_wp2_with (go_at_call 11; refine ((unhide HQt) _).mono ?_; rintro e w' ⟨rfl, m', rfl⟩)
            go_roundw
            case rel => exact ⟨t + 1, _, by omega, by go_num, congrArg (Value.int .i64) (by rw [HS.out, HSS.out]; unfold comb; split <;> omega), rfl⟩
            case measure => simp [intOf]; omega
        · obtain rfl : t = len := by omega
          go_wp2
          go_ret
          exact ⟨rfl, _, rfl⟩
  · have h17' : (op == 17) = false := by simpa using h17
    have HX : Hid (own op mn mx = 0) := by
      have : ¬ op = 17 := by simpa using h17
      show own op mn mx = 0
      simp [own, this]
    clear h17
    go_enter Yba.func11, Yba.ntmps11
    go_wp2
    go_quiet (fail)
    go_wp2
    go_loopw [3, 33] (fun s i wr => ∃ (t m : Nat), t ≤ len ∧ i = .int .i64 t ∧ s = .int .i64 (acc R (own op mn mx) t) ∧ wr = w.drewN m) (fun _ i _ => len - (intOf i).toNat)
    case atStart => exact ⟨0, _, Nat.zero_le _, rfl, congrArg (Value.int .i64) (by rw [HX.out]; rfl), rfl⟩
    case round =>
      obtain ⟨t, m, ht, rfl, rfl, rfl⟩ := hrel
      by_cases hlt : t < len
      · obtain rfl := HA.out (by omega)
        have hcell := HC.out t hlt
        have hr0 := HR.out t
        have hs0 := acc_nonneg R _ HO.out t
        have hq := fun m => HQ.out t hlt m
        have HQt := hide hq
        have HS : Hid (acc R (own op mn mx) (t + 1) = comb (acc R (own op mn mx) t) (R t)) := acc_succ R _ t
        clear hq
        obtain ⟨s, hs⟩ : ∃ s, acc R (own op mn mx) t = s := ⟨_, rfl⟩
        rw [hs] at hs0 ⊢
        have HSS := hide hs
        clear hs
        rcases cases4 hr0 hs0 with h | ⟨h1, h2⟩ | ⟨h1, h2, h4, h3⟩ | ⟨h1, h2, h4, h3, h5⟩
        all_goals
          go_wp2_with (go_at_call 11; refine ((unhide HQt) _).mono ?_; rintro e w' ⟨rfl, m', rfl⟩)
          go_roundw
          case rel => exact ⟨t + 1, _, by omega, by go_num, congrArg (Value.int .i64) (by rw [HS.out, HSS.out]; unfold comb; split <;> omega), rfl⟩
          case measure => simp [intOf]; omega
      · obtain rfl : t = len := by omega
        go_wp2
        go_ret
        exact ⟨rfl, _, rfl⟩

/-- The whole tree, as it lies in memory when shortestLong is called. -/
def TreeAt (w : World) (n : Nat) (par : Nat → Nat) (op mn mx : Nat → Int) (blk : Nat → Nat) : Prop :=
  ∀ j, j < n → ∃ (ao : Option Addr) (cap gb : Nat), NodeAt w (blk j) (op j) (mn j) (mx j) ao (ch par n j).length cap ∧ (0 < (ch par n j).length → ao = some ⟨gb, 0, none⟩) ∧
    ∀ t, t < (ch par n j).length → w.cell? ⟨gb, t, none⟩ = some (.pointer (some ⟨blk ((ch par n j).getD t 0), 0, none⟩))

theorem acc_list (h : Nat → Int) : ∀ (l : List Nat) (s : Int), acc (fun t => h (l.getD t 0)) s l.length = l.foldl (fun s i => comb s (h i)) s := by
  intro l s
  have key : ∀ (k : Nat), k ≤ l.length → acc (fun t => h (l.getD t 0)) s k = (l.take k).foldl (fun s i => comb s (h i)) s := by
    intro k
    induction k with
    | zero => intro _; simp [acc]
    | succ k ih =>
      intro hk
      rw [acc_succ, ih (by omega), List.take_succ_eq_append_getElem (by omega), List.foldl_append]
      simp [List.getD_eq_getElem?_getD, List.getElem?_eq_getElem (show k < l.length by omega)]
  rw [key l.length (Nat.le_refl _), List.take_length]

theorem ch_length_le (par : Nat → Nat) (n j : Nat) : (ch par n j).length ≤ n := by
  unfold ch
  exact Nat.le_trans (List.length_filter_le _ _) (by simp)

theorem sl_tree (w : World) (n : Nat) (par : Nat → Nat) (op mn mx : Nat → Int) (blk : Nat → Nat) (hT : TreeAt w n par op mn mx blk) (hn : n ≤ 9223372036854775807)
    (hp : ∀ i, 0 < i → i < n → par i < i) (hmn : ∀ i, 0 ≤ mn i) (hmn' : ∀ i, mn i ≤ 1000000) (hmx : ∀ i, 0 ≤ mx i) :
    ∀ f j, j < n → n - j ≤ f → ∀ m, Calls Yba.prog 11 #[.pointer (some ⟨blk j, 0, none⟩)] (w.drewN m) fun e w' =>
      e = .returned (.int .i64 (best par (fun i => own (op i) (mn i) (mx i)) n f j)) ∧ ∃ m', w' = (w.drewN m).drewN m'
  | 0, j, hj, hf, _ => absurd hf (by omega)
  | f + 1, j, hj, hf, m => by
    obtain ⟨ao, cap, gb, hN, hao, hc⟩ := hT j hj
    have hv : ∀ i, 0 ≤ own (op i) (mn i) (mx i) := fun i => by unfold own; have := hmx i; split <;> omega
    have key := sl_step (w.drewN m) (blk j) gb (op j) (mn j) (mx j) ao (ch par n j).length cap (fun t => blk ((ch par n j).getD t 0))
      (fun t => best par (fun i => own (op i) (mn i) (mx i)) n f ((ch par n j).getD t 0)) ⟨hN.c0, hN.c2, hN.c7, hN.c8⟩ (Nat.le_trans (ch_length_le par n j) hn) (hmn j) (hmn' j) (hmx j)
      (fun t => best_nonneg hv f _) hao hc (fun t ht m2 => by
        have hmem : (ch par n j).getD t 0 ∈ ch par n j := by
          rw [List.getD_eq_getElem?_getD, List.getElem?_eq_getElem ht]; exact List.getElem_mem ht
        have h3 := mem_ch.1 hmem
        have hlt := hp _ h3.2.1 h3.1
        rw [World.drewN_drewN]
        refine (sl_tree w n par op mn mx blk hT hn hp hmn hmn' hmx f _ h3.1 (by omega) (m + m2)).mono ?_
        rintro e w' ⟨rfl, m', rfl⟩
        exact ⟨rfl, m2 + m', by simp only [World.drewN_drewN, Nat.add_assoc]⟩)
    refine key.mono ?_
    rintro e w' ⟨rfl, m', rfl⟩
    exact ⟨ret_int (by rw [acc_list]; rfl), m', rfl⟩
end Go.Proofs.Ybulkbbhy.Tree
