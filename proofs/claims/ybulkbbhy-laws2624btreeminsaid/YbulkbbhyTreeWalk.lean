/-
  THE WALK of trigrove.LawS2624BTreeMin.
-/
import Derived.Test.YbulkbbhyTreeOp
import Derived.Test.YbulkbbhyTreeInv
import Derived.Deep.LoopGhost
import Derived.Deep.DeepCutAuto
import Derived.Deep.CutRange
import Derived.Deep.RegionLawGrows
import Derived.BigRegion
import Derived.Deep.RegionHeld3
import Derived.Deep.AppendLies
namespace Go.Proofs.Ybulkbbhy.Tree
open Go.RowKit
theorem Yba.info58 : (Yba.prog.info? 58).map (fun i => (i.zero, i.size, i.bytes)) = some (some (.pointer none), 1, 8) := by kernel_rfl
theorem ex_inv {w wr : World} {n k c : Nat} {par : Nat → Nat} {op mn mx : Nat → Int} {blk : Nat → Nat} {sv : Nat → Value} (h : TInv w wr n k c par op mn mx blk sv) : ∃ blk sv, TInv w wr n k c par op mn mx blk sv := ⟨_, _, h⟩
/-- The node's value, off the input's cells. -/
def valOf (o m e : Nat → Int) (i : Nat) : Int := own (opOf (o i)) (m i) (m i + e i * 16)

theorem mod_nat (a : Int) (k : Nat) (ha : 0 ≤ a) : a % (k : Int) = ((a.toNat % k : Nat) : Int) := by
  rw [Int.natCast_emod, Int.toNat_of_nonneg ha]
theorem valOf_nonneg {o m e : Nat → Int} (hm : ∀ i, 0 ≤ m i) (he : ∀ i, 0 ≤ e i) (i : Nat) : 0 ≤ valOf o m e i := by
  have := hm i; have := he i; unfold valOf own; split <;> omega
theorem want_nonneg {val : Nat → Int} : ∀ k, 0 ≤ want val k
  | 0 => by simp [want]
  | k + 1 => by rw [want_succ]; exact comb_nonneg (want_nonneg k)
theorem want_no {o m e : Nat → Int} {k : Nat} (h : ¬ (opOf (o k) = 17 ∧ 64 ≤ e k * 16)) : want (valOf o m e) k = want (valOf o m e) (k + 1) := by
  have : valOf o m e k = 0 := by unfold valOf own; rw [if_neg (fun h' => h ⟨h'.1, by omega⟩)]
  rw [want_succ, this]; simp [comb]
theorem want_yes {o m e : Nat → Int} {k : Nat} (hm : 0 ≤ m k) (h : opOf (o k) = 17 ∧ 64 ≤ e k * 16) (h2 : want (valOf o m e) k = 0 ∨ m k + e k * 16 < want (valOf o m e) k) : m k + e k * 16 = want (valOf o m e) (k + 1) := by
  have : valOf o m e k = m k + e k * 16 := by unfold valOf own; rw [if_pos ⟨h.1, by omega⟩]
  rw [want_succ, this]; unfold comb; rw [if_pos ⟨by omega, h2⟩]
theorem want_keep {o m e : Nat → Int} {k : Nat} (h : opOf (o k) = 17 ∧ 64 ≤ e k * 16) (h2 : ¬ want (valOf o m e) k = 0) (h3 : want (valOf o m e) k ≤ m k + e k * 16) : want (valOf o m e) k = want (valOf o m e) (k + 1) := by
  have : valOf o m e k = m k + e k * 16 := by unfold valOf own; rw [if_pos ⟨h.1, by omega⟩]
  rw [want_succ, this]; unfold comb; rw [if_neg (by omega)]

def appS (args : Array Value) : Sem Value := Builtin.append_ #[62, 62] 62 args
theorem app_as (args : Array Value) : Builtin.append_ #[62, 62] 62 args = appS args := rfl
attribute [local go_sem ↓] app_as

set_option maxRecDepth 20000 in
set_option maxHeartbeats 1000000 in
theorem law_walk (w : World) (ib ioff n icap : Nat) (o m e p : Nat → Int) (hn0 : 0 < n) (hn : n ≤ 1024)
    (hc0 : ∀ i, i < n → w.cell? ⟨ib, ioff + i * 4, none⟩ = some (.int .u8 (o i)))
    (hc1 : ∀ i, i < n → w.cell? ⟨ib, ioff + i * 4 + 1, none⟩ = some (.int .u16 (m i)))
    (hc2 : ∀ i, i < n → w.cell? ⟨ib, ioff + i * 4 + 2, none⟩ = some (.int .u8 (e i)))
    (hc3 : ∀ i, i < n → w.cell? ⟨ib, ioff + i * 4 + 3, none⟩ = some (.int .u16 (p i))) (hib : ib < w.heap.size)
    (ho : ∀ i, 0 ≤ o i ∧ o i ≤ 255) (hm : ∀ i, 0 ≤ m i ∧ m i ≤ 65535) (he : ∀ i, 0 ≤ e i ∧ e i ≤ 255) (hpb : ∀ i, 0 ≤ p i ∧ p i ≤ 65535) :
    Calls Yba.prog 4 #[.slice (some ⟨ib, ioff, none⟩) n icap] w fun e w' => e = .returned (.bool true) ∧ Below w.heap.size w w' := by
  have hmk := run_make_row' (P := Yba.prog) 62 58 (.pointer none) 8 Yba.underlying62 Yba.info58 rfl .i64 .i64 n (by omega) (by omega)
  have h1024 : decide ((1024 : Int) < (n : Int)) = false := by simp; omega
  have hnz : ((n : Int) == 0) = false := by simp; omega
  have HC0 := hide hc0
  have HC1 := hide hc1
  have HC2 := hide hc2
  have HC3 := hide hc3
  have HB := hide (And.intro ho (And.intro hm (And.intro he hpb)))
  clear hc0 hc1 hc2 hc3 ho hm he hpb
  go_enter Yba.func4, Yba.ntmps4
  go_wp2
  go_loopg [4, 5] n (fun gk s i wr => ∃ (k : Nat) (blk : Nat → Nat) (sv : Nat → Value), k ≤ n ∧ gk + k = n ∧ i = .int .i64 k ∧ s = .int .i64 (want (valOf o m e) k) ∧
      TInv w wr n k k (fun i => (p i).toNat % i) (fun i => opOf (o i)) m (fun i => m i + e i * 16) blk sv)
  case atStart => exact ⟨0, fun _ => 0, fun _ => .slice none 0 0, by omega, by omega, rfl, rfl, TInv.start _ _ _ _ _ _ _ _⟩
  case round =>
    obtain ⟨k, blk, sv, hk, hgk, rfl, rfl, hI⟩ := hrel
    have HI := hide hI
    have hBlt := hI.row.lt
    have hfr := hI.row.frozen k
    by_cases hlt : k < n
    · have c0 : wr.cell? ⟨ib, ioff + k * 4, none⟩ = some (.int .u8 (o k)) := (hI.below.cell (p := ⟨ib, ioff + k * 4, none⟩) hib).trans (HC0.out k hlt)
      have c1 : wr.cell? ⟨ib, ioff + k * 4 + 1, none⟩ = some (.int .u16 (m k)) := (hI.below.cell (p := ⟨ib, ioff + k * 4 + 1, none⟩) hib).trans (HC1.out k hlt)
      have c2 : wr.cell? ⟨ib, ioff + k * 4 + 2, none⟩ = some (.int .u8 (e k)) := (hI.below.cell (p := ⟨ib, ioff + k * 4 + 2, none⟩) hib).trans (HC2.out k hlt)
      have hcB : wr.cell? ⟨w.heap.size, k, none⟩ = some (.pointer none) := by have := hI.row.cell hlt; simpa using this
      obtain ⟨⟨bo0, bo1⟩, ⟨bm0, bm1⟩, ⟨be0, be1⟩, ⟨bp0, bp1⟩⟩ := (show (0 ≤ o k ∧ o k ≤ 255) ∧ (0 ≤ m k ∧ m k ≤ 65535) ∧ (0 ≤ e k ∧ e k ≤ 255) ∧ (0 ≤ p k ∧ p k ≤ 65535) from ⟨HB.out.1 k, HB.out.2.1 k, HB.out.2.2.1 k, HB.out.2.2.2 k⟩)
      clear hI
      go_upto_region 14 with (go_at_call 12; refine (op_any _ _ (by omega) (by omega)).mono ?_; rintro e w' ⟨rfl, rfl⟩)
      obtain ⟨X, hX⟩ : ∃ X, X = (wr.setCell ⟨w.heap.size, k, none⟩ (.pointer (some ⟨wr.heap.size, 0, none⟩))).alloc (.cells #[.int .u8 (opOf (o k)), .int .u16 0, .slice none 0 0, .pointer none, .slice none 0 0, .int .i32 0, .int .i32 0, .int .i64 (m k), .int .i64 (m k + e k * 16), .int .i64 0, .string ⟨#[]⟩] 67) := ⟨_, rfl⟩
      obtain ⟨bv, hbv⟩ : ∃ bv, bv = decide (opOf (o k) = 17 ∧ 64 ≤ e k * 16) := ⟨_, rfl⟩
      have HBV := hide hbv
      clear hbv
      go_cut [65] (fun s wx => s = .bool bv ∧ X = wx)
      case first =>
        by_cases h17 : (opOf (o k) == 17) = true
        · by_cases h64 : 64 ≤ m k + e k * 16 - m k
          · go_wp2_with fail
            go_meet
            case rel => exact ⟨congrArg Value.bool (by rw [HBV.out]; symm; rw [decide_eq_true_eq]; exact ⟨by simpa using h17, by omega⟩), hX⟩
          · go_wp2_with fail
            go_meet
            case rel => exact ⟨congrArg Value.bool (by rw [HBV.out]; symm; rw [decide_eq_false_iff_not]; omega), hX⟩
        · have h17' : (opOf (o k) == 17) = false := by simpa using h17
          go_wp2_with fail
          go_meet
          case rel => exact ⟨congrArg Value.bool (by rw [HBV.out]; symm; rw [decide_eq_false_iff_not]; intro h; exact absurd h.1 (by simpa using h17')), hX⟩
      case rest =>
        obtain ⟨rfl, rfl⟩ := hcut
        have HX := hide hX
        clear hX
        go_upto_if 65 with fail
        go_cut [4] (fun s wx => s = .int .i64 (want (valOf o m e) (k + 1)) ∧ X = wx)
        case first =>
          by_cases hv : opOf (o k) = 17 ∧ 64 ≤ e k * 16
          · obtain rfl : bv = true := HBV.out.trans (decide_eq_true hv)
            have hw0 := want_nonneg (val := valOf o m e) k
            have HY := fun h => hide (want_yes (m := m) (o := o) (e := e) (k := k) bm0 hv h)
            have HK := fun h h' => hide (want_keep (m := m) (o := o) (e := e) (k := k) hv h h')
            generalize want (valOf o m e) k = W0 at HY HK hw0 ⊢
            have HV := hide hv
            clear hv
            by_cases hz : W0 = 0
            · have hzb : (W0 == 0) = true := by simpa using hz
              go_wp2_with fail
              go_meet
              case rel => exact ⟨congrArg (Value.int .i64) (HY (.inl hz)).out, rfl⟩
            · have hzb : (W0 == 0) = false := by simpa using hz
              by_cases hl : m k + e k * 16 < W0
              · go_wp2_with fail
                go_meet
                case rel => exact ⟨congrArg (Value.int .i64) (HY (.inr hl)).out, rfl⟩
              · go_wp2_with fail
                go_meet
                case rel => exact ⟨congrArg (Value.int .i64) (HK hz (by omega)).out, rfl⟩
          · obtain rfl : bv = false := HBV.out.trans (decide_eq_false hv)
            have HN := hide (want_no (m := m) (o := o) (e := e) (k := k) hv)
            clear hv
            go_wp2_with fail
            go_meet
            case rel => exact ⟨congrArg (Value.int .i64) HN.out, rfl⟩
        case rest =>
          obtain ⟨rfl, rfl⟩ := hcut
          have hI1 := HI.out.newNode hlt (fun i h1 _ => Nat.mod_lt _ h1)
          rw [show ((wr.setCell ⟨w.heap.size, k, none⟩ (ptr wr.heap.size)).alloc (.cells (nodeArr (opOf (o k)) (m k) (m k + e k * 16) (.slice none 0 0)) 67)) = X from HX.out.symm] at hI1
          have HI1 := hide hI1
          clear hI1 c0 c1 c2 hcB hfr HX HI
          by_cases hk0 : k = 0
          · subst hk0
            go_wp2
            go_roundg (n - 1)
            case measure => omega
            case rel => exact ⟨1, _, _, by omega, by omega, rfl, rfl, HI1.out.link0⟩
          · obtain ⟨q, hq, hq2, hq3⟩ : ∃ q : Nat, p k % (k : Int) = (q : Int) ∧ (p k).toNat % k = q ∧ q < k := ⟨(p k).toNat % k, mod_nat _ _ bp0, rfl, Nat.mod_lt _ (by omega)⟩
            have HQ2 := hide hq2
            clear hq2
            have c3 : X.cell? ⟨ib, ioff + k * 4 + 3, none⟩ = some (.int .u16 (p k)) := (HI1.out.below.cell (p := ⟨ib, ioff + k * 4 + 3, none⟩) hib).trans (HC3.out k hlt)
            go_upto_region 19 with fail
            rw [hq]
            have HQ := hide hq
            obtain ⟨blk2, sv2, hI2⟩ := ex_inv HI1.out
            clear hq c3 HI1 hBlt
            have HI2 := hide hI2
            have hBX := hI2.row.lt
            have b1 : X.cell? ⟨w.heap.size, q, none⟩ = some (.pointer (some ⟨blk2 q, 0, none⟩)) := by
              have := hI2.row.cell (i := q) (by omega); rw [if_pos (by omega)] at this; exact this
            have b2 : X.cell? ⟨w.heap.size, k, none⟩ = some (.pointer (some ⟨blk2 k, 0, none⟩)) := by
              have := hI2.row.cell (i := k) (by omega); rw [if_pos (by omega)] at this; exact this
            have hnq := (hI2.node q (by omega)).2
            have hqX : blk2 q < X.heap.size := hI2.lt (by omega)
            have b3 : X.cell? ⟨blk2 q, 2, none⟩ = some (sv2 q) := by rw [cell_of_row _ _ _ _ _ _ hnq]; rfl
            have b4 : X.frozen? ⟨blk2 q, 2, none⟩ = false := frozen_of_row _ _ _ _ _ hnq
            have hsub := hI2.subs q (by omega)
            have hBq : w.heap.size < blk2 q := (hI2.node q (by omega)).1
            have hBne : blk2 q ≠ w.heap.size := by omega
            have hne1 : some (blk2 q) ≠ (sv2 q).ownBlock := fun e => node_ne_row hnq hsub e.symm rfl
            have hne2 : some w.heap.size ≠ (sv2 q).ownBlock := fun e => by have := (hsub.lt _ e.symm).1; omega
            have hL : (ch (fun i => (p i).toNat % i) k q).length ≤ 1024 := Nat.le_trans (ch_length_le _ _ _) (by omega)
            have HS := hide hsub
            have hqn : q < n := by omega
            obtain ⟨i0, hi, hz0, hz1, hz2⟩ := info_parts Yba.info58
            have HSA := fun o => HS.out.alloc (o := o)
            obtain ⟨L, hLe⟩ : ∃ L, (ch (fun i => (p i).toNat % i) k q).length = L := ⟨_, rfl⟩
            rw [hLe] at hL HSA
            have HL := hide hLe
            clear hI2 hnq hsub HS hLe
            have HSB := fun o => hide (HSA o)
            clear HSA
            clear HBV h1024 hnz hmk
            have a1 := fun o => hide ((World.cell?_alloc_past (w := X) o _ _ hBX).trans b1)
            have a2 := fun o => hide ((World.cell?_alloc_past (w := X) o _ _ hBX).trans b2)
            have a3 := fun o => hide ((World.cell?_alloc_past (w := X) o _ _ hqX).trans b3)
            have a4 := fun o => hide ((World.frozen?_alloc_past (w := X) o _ _ hqX).trans b4)
            obtain ⟨g, cap, w1, hrun, hown, hgrow, hat, hglt⟩ := run_append_lies (P := Yba.prog) (X.alloc (.cells #[.pointer (some ⟨blk2 k, 0, none⟩)] 58)).drew 62 62 (w.heap.size + 1) 58 i0 (.pointer none) 1 8 Yba.underlying62 hi hz0 hz1 hz2 rfl (by decide) (sv2 q) L _ (HSB _).out ⟨X.heap.size, 0, none⟩ 1 1 [.pointer (some ⟨blk2 k, 0, none⟩)] rfl (cell_one_new _ _ _) (by intro u hu; simp at hu; subst hu; rfl) (by decide) (by unfold maxLen; omega) (by omega) (by simp; omega) (X.heap.size + 1) (by simp)
            have s1 := (hgrow.cell_far ⟨blk2 q, 2, none⟩ (by simp; omega) hne1).trans (a3 _).out
            have s2 := (hgrow.frozen_far ⟨blk2 q, 2, none⟩ (by simp; omega) hne1).trans (a4 _).out
            have s3 := (hgrow.cell_far ⟨w.heap.size, q, none⟩ (by simp; omega) hne2).trans (a1 _).out
            have s4 := (hgrow.cell_far ⟨w.heap.size, k, none⟩ (by simp; omega) hne2).trans (a2 _).out
            have HG := hide hgrow
            have HW := hide hown
            have HAT := hide hat
            clear hgrow hown hat HSB hne1 hne2 hi hz0 hz1 hz2
            rw [app_as] at hrun
            go_big_region
            go_wp2
            go_roundg (n - (k + 1))
            case measure => omega
            case rel =>
              refine ⟨k + 1, blk2, upd sv2 q (.slice (some ⟨g, 0, none⟩) (L + 1) cap), by omega, by omega, by go_num, rfl, ?_⟩
              refine (TInv.link2 (par := fun i => (p i).toNat % i) (q := q) HQ2.out HL.out HI2.out (by omega) hq3 (.cells #[.pointer (some ⟨blk2 k, 0, none⟩)] 58) (w2 := w1) ⟨HG.out.os, HG.out.tape, HG.out.output, HG.out.size, HG.out.block⟩ HW.out ?_)
              intro g' hg'
              simp only [Value.ownBlock, Option.some.injEq] at hg'
              subst hg'
              rcases HAT.out with h | h
              · exact .inl h
              · exact .inr (by omega)
    · obtain rfl : k = n := by omega
      have hc00 : wr.cell? ⟨w.heap.size, 0, none⟩ = some (.pointer (some ⟨blk 0, 0, none⟩)) := by
        have := hI.row.cell (i := 0) hn0; rw [if_pos hn0] at this; exact this
      have hsl := sl_tree wr k _ _ _ _ blk hI.tree (by omega) (fun i h1 _ => Nat.mod_lt _ h1) (fun i => (HB.out.2.1 i).1) (fun i => by have := (HB.out.2.1 i).2; omega) (fun i => by have h1 := (HB.out.2.1 i).1; have h2 := (HB.out.2.2.1 i).1; show 0 ≤ m i + e i * 16; omega) k 0 hn0 (by omega) 0
      have hbw := best_eq_want (par := fun i => (p i).toNat % i) (val := valOf o m e) (n := k) (valOf_nonneg (fun i => (HB.out.2.1 i).1) (fun i => (HB.out.2.2.1 i).1)) (fun i h1 _ => Nat.mod_lt _ h1) hn0 k (Nat.le_refl _)
      have hbb : (best (fun i => (p i).toNat % i) (fun i => own (opOf (o i)) (m i) (m i + e i * 16)) k k 0 == want (valOf o m e) k) = true := by
        rw [beq_iff_eq]; exact hbw
      have hbel := hide hI.below
      clear hI HI hbw
      go_wp2_with (go_at_call 11; refine hsl.mono ?_; rintro e w' ⟨rfl, m', rfl⟩)
      go_ret
      have hb := hbel.out
      exact ⟨rfl, ⟨hb.os, hb.tape, hb.output, hb.size, hb.block⟩⟩

set_option maxHeartbeats 400000 in
theorem law_long (w : World) (ao : Option Addr) (n icap : Nat) (hn : 1024 < n) (hn' : n ≤ 9223372036854775807) :
    Calls Yba.prog 4 #[.slice ao n icap] w fun e w' => e = .returned (.bool true) ∧ Below w.heap.size w w' := by
  go_enter Yba.func4, Yba.ntmps4
  go_wp2
  go_ret
  exact ⟨rfl, Below.refl _ _⟩

set_option maxRecDepth 20000 in
set_option maxHeartbeats 400000 in
theorem law_empty (w : World) (ao : Option Addr) (icap : Nat) :
    Calls Yba.prog 4 #[.slice ao 0 icap] w fun e w' => e = .returned (.bool true) ∧ Below w.heap.size w w' := by
  have hsl := sl_step (w.alloc (.cells (nodeArr 2 0 0 (.slice none 0 0)) 67)) w.heap.size 0 2 0 0 none 0 0 (fun _ => 0) (fun _ => 0)
    ⟨by rw [cell_of_row _ _ _ _ _ _ (heap_alloc_new _ _)]; rfl, by rw [cell_of_row _ _ _ _ _ _ (heap_alloc_new _ _)]; rfl, by rw [cell_of_row _ _ _ _ _ _ (heap_alloc_new _ _)]; rfl, by rw [cell_of_row _ _ _ _ _ _ (heap_alloc_new _ _)]; rfl⟩
    (by omega) (by omega) (by omega) (by omega) (fun _ => by omega) (fun h => by omega) (fun t h => by omega) (fun t h => by omega)
  have HSL := hide hsl
  clear hsl
  go_enter Yba.func4, Yba.ntmps4
  go_wp2_with fail
  refine HSL.out.mono ?_
  rintro e w' ⟨rfl, m', rfl⟩
  have ho : acc (fun _ => 0) (own 2 0 0) 0 = 0 := by simp [acc, own]
  rw [ho]
  go_wp2
  go_ret
  have hb := (Below.refl w.heap.size w).alloc (Nat.le_refl _) (.cells (nodeArr 2 0 0 (.slice none 0 0)) 67)
  exact ⟨rfl, ⟨hb.os, hb.tape, hb.output, hb.size, hb.block⟩⟩

end Go.Proofs.Ybulkbbhy.Tree
