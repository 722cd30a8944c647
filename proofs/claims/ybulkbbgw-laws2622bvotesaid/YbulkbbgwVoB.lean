import Derived.Test.YbulkbbgwVoA
import Derived.Laws.ResultCell
namespace Go.Proofs.Ybulkbbgw.Vo
open Go.RowKit

theorem rp_cases (a b : Rp) : a = b ∨ ¬ a.v = b.v ∨ (a.v = b.v ∧ ¬ a.p = b.p) := by
  obtain ⟨a, p⟩ := a
  obtain ⟨b, q⟩ := b
  simp only [Rp.mk.injEq]
  by_cases h1 : a = b <;> by_cases h2 : p = q <;> simp [h1, h2]
theorem rp_ne {a b : Rp} (h : ¬ a.v = b.v ∨ (a.v = b.v ∧ ¬ a.p = b.p)) : a ≠ b := by
  rintro rfl
  rcases h with h | h
  · exact h rfl
  · exact h.2 rfl

/-- The candidate and its lead behind the first k reports. -/
def bm (f : Nat → Rp) : Nat → Rp × Nat
  | 0 => (⟨0, false⟩, 0)
  | k + 1 => if (bm f k).2 = 0 then (f k, 1) else if f k = (bm f k).1 then ((bm f k).1, (bm f k).2 + 1) else ((bm f k).1, (bm f k).2 - 1)
/-- How many of the first k reports are v. -/
def cnt (f : Nat → Rp) (v : Rp) : Nat → Nat
  | 0 => 0
  | k + 1 => cnt f v k + (if f k = v then 1 else 0)
def maj (f : Nat → Rp) (L : Nat) : Rp × Bool := if L < 2 * cnt f (bm f L).1 L then ((bm f L).1, true) else (⟨0, false⟩, false)
theorem bm_le (f : Nat → Rp) : ∀ k, (bm f k).2 ≤ k
  | 0 => Nat.le_refl _
  | k + 1 => by
    have := bm_le f k
    simp only [bm]
    split
    · simp
    · split <;> simp <;> omega
theorem cnt_le (f : Nat → Rp) (v : Rp) : ∀ k, cnt f v k ≤ k
  | 0 => Nat.le_refl _
  | k + 1 => by have := cnt_le f v k; simp only [cnt]; split <;> omega

/-- A row of reports. -/
def RpsAt (w : World) (rb L : Nat) (f : Nat → Rp) : Prop := ∀ x, x < L → w.cell? ⟨rb, x * 2, none⟩ = some (.int .i64 (f x).v) ∧ w.cell? ⟨rb, x * 2 + 1, none⟩ = some (.bool (f x).p)
theorem RpsAt.below {B : Nat} {w w' : World} {rb L : Nat} {f : Nat → Rp} (h : RpsAt w rb L f) (hb : Below B w w') (hv : rb < B) : RpsAt w' rb L f :=
  fun x hx => ⟨(hb.cell (p := ⟨rb, x * 2, none⟩) hv).trans (h x hx).1, (hb.cell (p := ⟨rb, x * 2 + 1, none⟩) hv).trans (h x hx).2⟩

/-- The block b holds one report. -/
def RpBlk (w : World) (b : Nat) (r : Rp) : Prop := w.heap[b]? = some (.cells #[.int .i64 r.v, .bool r.p] 49 (0, 0))
theorem RpBlk.c0 {w : World} {b : Nat} {r : Rp} (h : RpBlk w b r) : w.cell? ⟨b, 0, none⟩ = some (.int .i64 r.v) := (cell_of_row _ _ _ _ _ _ h).trans rfl
theorem RpBlk.c1 {w : World} {b : Nat} {r : Rp} (h : RpBlk w b r) : w.cell? ⟨b, 1, none⟩ = some (.bool r.p) := (cell_of_row _ _ _ _ _ _ h).trans rfl
theorem RpBlk.free {w : World} {b : Nat} {r : Rp} (h : RpBlk w b r) (j : Nat) : w.frozen? ⟨b, j, none⟩ = false := frozen_of_row _ _ _ _ _ h
theorem RpBlk.of_block {w w' : World} {b : Nat} {r : Rp} (h : RpBlk w b r) (e : w'.heap[b]? = w.heap[b]?) : RpBlk w' b r := e.trans h
theorem RpBlk.lt {w : World} {b : Nat} {r : Rp} (h : RpBlk w b r) : b < w.heap.size := lt_of_block h
theorem RpBlk.set {w : World} {b : Nat} {r : Rp} (h : RpBlk w b r) (r' : Rp) : RpBlk ((w.setCell ⟨b, 0, none⟩ (.int .i64 r'.v)).setCell ⟨b, 1, none⟩ (.bool r'.p)) b r' :=
  (heap_setCell_same _ _ _ _ _ _ (heap_setCell_same _ _ _ _ _ _ h)).trans rfl

/-- While Majority runs: the result's block, the candidate's. -/
structure MJ (w wr : World) (c : Rp) : Prop where
  below : Below w.heap.size w wr
  res : RpBlk wr w.heap.size ⟨0, false⟩
  cand : RpBlk wr (w.heap.size + 1) c
theorem MJ.alloc {w wr : World} {c : Rp} (h : MJ w wr c) (o : Obj) : MJ w (wr.alloc o) c :=
  ⟨h.below.alloc h.below.size _, h.res.of_block (Below.heap_alloc _ _ _ h.res.lt), h.cand.of_block (Below.heap_alloc _ _ _ h.cand.lt)⟩
theorem MJ.set {w wr : World} {c : Rp} (h : MJ w wr c) (c' : Rp) : MJ w ((wr.setCell ⟨w.heap.size + 1, 0, none⟩ (.int .i64 c'.v)).setCell ⟨w.heap.size + 1, 1, none⟩ (.bool c'.p)) c' :=
  ⟨(h.below.setCell (Nat.le_succ _) _).setCell (Nat.le_succ _) _, h.res.of_block (by rw [heap_setCell_other _ _ _ _ (Nat.ne_of_lt (Nat.lt_succ_self _)), heap_setCell_other _ _ _ _ (Nat.ne_of_lt (Nat.lt_succ_self _))]), h.cand.set c'⟩
theorem MJ.start (w : World) : MJ w ((w.alloc (.cells #[.int .i64 0, .bool false] 49)).alloc (.cells #[.int .i64 0, .bool false] 49)) ⟨0, false⟩ :=
  ⟨((Below.refl _ _).alloc (Nat.le_refl _) _).alloc (by simp) _, RpBlk.of_block (heap_alloc_new _ _) (Below.heap_alloc _ _ _ (by simp)), by have := heap_alloc_new (w.alloc (.cells #[.int .i64 0, .bool false] 49)) (.cells #[.int .i64 0, .bool false] 49); simpa [RpBlk] using this⟩

set_option maxRecDepth 20000 in
set_option maxHeartbeats 2000000 in
theorem majority_any (ao : Option Addr) (rb L cap : Nat) (f : Nat → Rp) (w : World) (hA : 0 < L → ao = some ⟨rb, 0, none⟩ ∧ rb < w.heap.size ∧ RpsAt w rb L f) (hL : L ≤ 8) :
    Calls Yba.prog 13 #[.slice ao L cap] w fun e w' => e = .returned (.tuple #[.agg #[.int .i64 (maj f L).1.v, .bool (maj f L).1.p], .bool (maj f L).2]) ∧ Below w.heap.size w w' := by
  have HA := hide hA
  have H0 := hide (MJ.start w)
  clear hA
  go_enter Yba.func13, Yba.ntmps13
  go_wp2
  go_loopg [5, 14] L (fun gk x y wr => ∃ k : Nat, x = .int .i64 (bm f k).2 ∧ y = .int .i64 k ∧ gk + k = L ∧ MJ w wr (bm f k).1)
  case atStart => exact ⟨0, rfl, rfl, by omega, H0.out⟩
  case round =>
    obtain ⟨k, rfl, rfl, hgk, hJ⟩ := hrel
    by_cases hk : k < L
    · obtain ⟨rfl, hrb, hR⟩ := HA.out (by omega)
      obtain ⟨c0, c1⟩ := hR.below hJ.below hrb k hk
      have d0 := hJ.cand.c0
      have d1 := hJ.cand.c1
      have df := hJ.cand.free
      have hqk : (k : Int) < (L : Int) := by omega
      have hlt1 := hJ.cand.lt
      have hrb' : rb < wr.heap.size := Nat.lt_of_lt_of_le hrb hJ.below.size
      have hle := bm_le f k
      have hbm : bm f (k + 1) = (if (bm f k).2 = 0 then (f k, 1) else if f k = (bm f k).1 then ((bm f k).1, (bm f k).2 + 1) else ((bm f k).1, (bm f k).2 - 1)) := rfl
      have HBM := hide hbm
      have HJ := hide hJ
      clear hbm hJ hR
      obtain ⟨⟨bc, bl⟩, hbk⟩ : ∃ bk, bm f k = bk := ⟨_, rfl⟩
      rw [hbk] at HBM HJ d0 d1 hle ⊢
      obtain ⟨fk, hfk⟩ : ∃ fk, f k = fk := ⟨_, rfl⟩
      rw [hfk] at HBM c0 c1
      clear hbk hfk
      simp only at d0 d1 hle ⊢
      by_cases hl0 : bl = 0
      · subst hl0
        have e : bm f (k + 1) = (fk, 1) := HBM.out.trans (if_pos rfl)
        have HE := hide e
        clear e HBM
        go_wp2
        go_roundg (L - (k + 1))
        case measure => omega
        case rel => exact ⟨k + 1, by rw [HE.out]; rfl, by go_num, by omega, by rw [HE.out]; exact (HJ.out.set fk).alloc _⟩
      · have hl1 : ((bl : Int) == 0) = false := by simp; omega
        rcases rp_cases fk bc with he | he
        · have e : bm f (k + 1) = (bc, bl + 1) := HBM.out.trans ((if_neg hl0).trans (if_pos he))
          have HE := hide e
          clear e HBM
          subst he
          go_wp2
          go_roundg (L - (k + 1))
          case measure => omega
          case rel => exact ⟨k + 1, by rw [HE.out]; exact congrArg (Value.int .i64) (by simp), by go_num, by omega, by rw [HE.out]; exact HJ.out.alloc _⟩
        · have e : bm f (k + 1) = (bc, bl - 1) := HBM.out.trans ((if_neg hl0).trans (if_neg (rp_ne he)))
          have HE := hide e
          clear e HBM
          rcases he with he | ⟨he, he'⟩
          · go_wp2
            go_roundg (L - (k + 1))
            case measure => omega
            case rel => exact ⟨k + 1, by rw [HE.out]; exact congrArg (Value.int .i64) (by simp; omega), by go_num, by omega, by rw [HE.out]; exact HJ.out.alloc _⟩
          · go_wp2
            go_roundg (L - (k + 1))
            case measure => omega
            case rel => exact ⟨k + 1, by rw [HE.out]; exact congrArg (Value.int .i64) (by simp; omega), by go_num, by omega, by rw [HE.out]; exact HJ.out.alloc _⟩
    · obtain rfl : k = L := by omega
      have HJ := hide hJ
      clear hJ H0
      obtain ⟨c, hc⟩ : ∃ c, (bm f k).1 = c := ⟨_, rfl⟩
      rw [hc] at HJ
      have HC := hide hc
      clear hc
      go_wp2
      go_loopg [8, 33] k (fun gk x y wx => ∃ j : Nat, x = .int .i64 (cnt f c j) ∧ y = .int .i64 j ∧ gk + j = k ∧ MJ w wx c)
      case atStart => exact ⟨0, rfl, rfl, by omega, HJ.out⟩
      case round =>
        clear HJ
        obtain ⟨j, rfl, rfl, hgk2, hJ⟩ := hrel
        have d0 := hJ.cand.c0
        have d1 := hJ.cand.c1
        have hlt1 := hJ.cand.lt
        have hcl := cnt_le f c j
        by_cases hj : j < k
        · obtain ⟨rfl, hrb, hR⟩ := HA.out (by omega)
          obtain ⟨c0, c1⟩ := hR.below hJ.below hrb j hj
          have hqk : (j : Int) < (k : Int) := by omega
          have hrb' : rb < wr.heap.size := Nat.lt_of_lt_of_le hrb hJ.below.size
          have hcn : cnt f c (j + 1) = cnt f c j + (if f j = c then 1 else 0) := rfl
          have HCN := hide hcn
          have HJ := hide hJ
          clear hcn hJ hR
          obtain ⟨fj, hfj⟩ : ∃ fj, f j = fj := ⟨_, rfl⟩
          rw [hfj] at HCN c0 c1
          clear hfj
          rcases rp_cases fj c with he | he
          · have e := HCN.out.trans (congrArg _ (if_pos he))
            have HE := hide e
            clear e HCN
            subst he
            go_wp2
            go_roundg (k - (j + 1))
            case measure => omega
            case rel => exact ⟨j + 1, by rw [HE.out]; exact congrArg (Value.int .i64) (by simp), by go_num, by omega, HJ.out.alloc _⟩
          · have e := HCN.out.trans (congrArg _ (if_neg (rp_ne he)))
            have HE := hide e
            clear e HCN
            rcases he with he | ⟨he, he'⟩
            · go_wp2
              go_roundg (k - (j + 1))
              case measure => omega
              case rel => exact ⟨j + 1, by rw [HE.out]; exact congrArg (Value.int .i64) (by simp), by go_num, by omega, HJ.out.alloc _⟩
            · go_wp2
              go_roundg (k - (j + 1))
              case measure => omega
              case rel => exact ⟨j + 1, by rw [HE.out]; exact congrArg (Value.int .i64) (by simp), by go_num, by omega, HJ.out.alloc _⟩
        · obtain rfl : j = k := by omega
          have hm : maj f j = if j < 2 * cnt f c j then (c, true) else (⟨0, false⟩, false) := by unfold maj; rw [HC.out]
          have HM := hide hm
          have r0 := hJ.res.c0
          have r1 := hJ.res.c1
          have rf := hJ.res.free
          have hrlt := hJ.res.lt
          have HJ := hide hJ
          clear hm hJ
          generalize cnt f c j = n at HM hcl ⊢
          by_cases hw : j < 2 * n
          · have e := HM.out.trans (if_pos hw)
            have HE := hide e
            clear e HM
            have hq : (j : Int) < 2 * (n : Int) := by omega
            go_wp2
            refine bodyPost_ret (v := .tuple #[.agg #[.int .i64 c.v, .bool c.p], .bool true]) (by rw [results_cell_tmp rfl]; go_simp) rfl ?_
            exact ⟨by rw [HE.out], (HJ.out.below.setCell (Nat.le_refl _) _).setCell (Nat.le_refl _) _⟩
          · have e := HM.out.trans (if_neg hw)
            have HE := hide e
            clear e HM
            have hq : decide ((j : Int) < 2 * (n : Int)) = false := decide_eq_false (by omega)
            go_wp2
            refine bodyPost_ret (v := .tuple #[.agg #[.int .i64 0, .bool false], .bool false]) (by rw [results_cell_tmp rfl]; go_simp) rfl ?_
            have hb := (HJ.out.below.setCell (p := ⟨w.heap.size, 0, none⟩) (Nat.le_refl _) (.int .i64 0)).setCell (p := ⟨w.heap.size, 1, none⟩) (Nat.le_refl _) (.bool false)
            exact ⟨by rw [HE.out], hb.alloc hb.size _⟩
end Go.Proofs.Ybulkbbgw.Vo
