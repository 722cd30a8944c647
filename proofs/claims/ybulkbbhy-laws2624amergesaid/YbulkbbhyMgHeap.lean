/-
  trigrove.(places).less (18), .down (15) BY THEIR CONTRACTS.
-/
import Derived.Test.YbulkbbhyRows
import Derived.Test.YbulkbbhyMgRep
import Derived.Test.YbulkbbhyMgLe
import Derived.Deep.LoopGhost
import Derived.Deep.DeepCutAuto
import Derived.Laws.Rows
import Derived.OneCell
namespace Go.Proofs.Ybulkbbhy.Mg
open Go.RowKit

/-- Block b is a row of places: the first n are h. -/
def PlBlk (w : World) (b n : Nat) (h : Nat → Pl) : Prop :=
  ∃ cur : Array Value, w.heap[b]? = some (.cells cur 54 (0, 0)) ∧ n * 3 ≤ cur.size ∧
    ∀ j, j < n → cur[j * 3]? = some (.int .u64 (h j).k) ∧ cur[j * 3 + 1]? = some (.int .i64 (h j).s) ∧ cur[j * 3 + 2]? = some (.int .i64 (h j).i)

theorem PlBlk.c0 {w : World} {b n : Nat} {h : Nat → Pl} (H : PlBlk w b n h) {j : Nat} (hj : j < n) : w.cell? ⟨b, j * 3, none⟩ = some (.int .u64 (h j).k) := by
  obtain ⟨cur, hb, _, hc⟩ := H; rw [cell_of_row _ _ _ _ _ _ hb]; exact (hc j hj).1
theorem PlBlk.c1 {w : World} {b n : Nat} {h : Nat → Pl} (H : PlBlk w b n h) {j : Nat} (hj : j < n) : w.cell? ⟨b, j * 3 + 1, none⟩ = some (.int .i64 (h j).s) := by
  obtain ⟨cur, hb, _, hc⟩ := H; rw [cell_of_row _ _ _ _ _ _ hb]; exact (hc j hj).2.1
theorem PlBlk.c2 {w : World} {b n : Nat} {h : Nat → Pl} (H : PlBlk w b n h) {j : Nat} (hj : j < n) : w.cell? ⟨b, j * 3 + 2, none⟩ = some (.int .i64 (h j).i) := by
  obtain ⟨cur, hb, _, hc⟩ := H; rw [cell_of_row _ _ _ _ _ _ hb]; exact (hc j hj).2.2
theorem PlBlk.free {w : World} {b n : Nat} {h : Nat → Pl} (H : PlBlk w b n h) (j : Nat) : w.frozen? ⟨b, j, none⟩ = false := by
  obtain ⟨cur, hb, _, hc⟩ := H; exact frozen_of_row _ _ _ _ _ hb
theorem PlBlk.of_block {w w' : World} {b n : Nat} {h : Nat → Pl} (H : PlBlk w b n h) (e : w'.heap[b]? = w.heap[b]?) : PlBlk w' b n h := by
  obtain ⟨cur, hb, hn, hc⟩ := H; exact ⟨cur, e.trans hb, hn, hc⟩
theorem PlBlk.mono {w : World} {b n n' : Nat} {h : Nat → Pl} (H : PlBlk w b n h) (hn' : n' ≤ n) : PlBlk w b n' h := by
  obtain ⟨cur, hb, hn, hc⟩ := H; exact ⟨cur, hb, by omega, fun j hj => hc j (by omega)⟩
theorem PlBlk.congr {w : World} {b n : Nat} {h h' : Nat → Pl} (H : PlBlk w b n h) (e : ∀ j, j < n → h j = h' j) : PlBlk w b n h' := by
  obtain ⟨cur, hb, hn, hc⟩ := H; exact ⟨cur, hb, hn, fun j hj => by rw [← e j hj]; exact hc j hj⟩

/-- A place stored at j. -/
def putPl (w : World) (b j : Nat) (p : Pl) : World :=
  ((w.setCell ⟨b, j * 3, none⟩ (.int .u64 p.k)).setCell ⟨b, j * 3 + 1, none⟩ (.int .i64 p.s)).setCell ⟨b, j * 3 + 2, none⟩ (.int .i64 p.i)

theorem PlBlk.put {w : World} {b n : Nat} {h : Nat → Pl} (H : PlBlk w b n h) (j : Nat) (p : Pl) (hj : j < n) : PlBlk (putPl w b j p) b n (updP h j p) := by
  obtain ⟨cur, hb, hn, hc⟩ := H
  refine ⟨((cur.setIfInBounds (j * 3) (.int .u64 p.k)).setIfInBounds (j * 3 + 1) (.int .i64 p.s)).setIfInBounds (j * 3 + 2) (.int .i64 p.i), ?_, by simpa using hn, ?_⟩
  · exact heap_setCell_same _ _ _ _ _ _ (heap_setCell_same _ _ _ _ _ _ (heap_setCell_same _ _ _ _ _ _ hb))
  · intro x hx
    simp only [Array.getElem?_setIfInBounds, Array.size_setIfInBounds, updP]
    by_cases e : x = j
    · subst e
      refine ⟨?_, ?_, ?_⟩
      · rw [if_neg (by omega), if_neg (by omega), if_pos rfl, if_pos (by omega), if_pos rfl]
      · rw [if_neg (by omega), if_pos rfl, if_pos (by omega), if_pos rfl]
      · rw [if_pos rfl, if_pos (by omega), if_pos rfl]
    · obtain ⟨e0, e1, e2⟩ := hc x hx
      rw [if_neg e]
      refine ⟨?_, ?_, ?_⟩
      · rw [if_neg (by omega), if_neg (by omega), if_neg (by omega)]; exact e0
      · rw [if_neg (by omega), if_neg (by omega), if_neg (by omega)]; exact e1
      · rw [if_neg (by omega), if_neg (by omega), if_neg (by omega)]; exact e2

theorem grown_set (w : World) (b o : Nat) (v : Value) : w.grownBy (w.setCell ⟨b, o, none⟩ v) (some b) :=
  ⟨rfl, rfl, rfl, by simp, fun k hk hne => heap_setCell_other _ _ _ _ (fun e => hne (by rw [e]))⟩
theorem grown_trans {a b c : World} {row : Option Nat} (h : a.grownBy b row) (k : b.grownBy c row) : a.grownBy c row :=
  ⟨k.os.trans h.os, k.tape.trans h.tape, k.output.trans h.output, Nat.le_trans h.size k.size, fun x hx hne => (k.block x (Nat.lt_of_lt_of_le hx h.size) hne).trans (h.block x hx hne)⟩
theorem grown_refl (w : World) (row : Option Nat) : w.grownBy w row := ⟨rfl, rfl, rfl, Nat.le_refl _, fun _ _ _ => rfl⟩
theorem grown_put (w : World) (b j : Nat) (p : Pl) : w.grownBy (putPl w b j p) (some b) :=
  grown_trans (grown_trans (grown_set _ _ _ _) (grown_set _ _ _ _)) (grown_set _ _ _ _)
theorem grown_drewN {a b : World} {row : Option Nat} (n : Nat) (h : a.grownBy b row) : a.grownBy (b.drewN n) row := ⟨h.os, h.tape, h.output, h.size, h.block⟩
theorem grown_drew {a b : World} {row : Option Nat} (h : a.grownBy b row) : a.grownBy b.drew row := ⟨h.os, h.tape, h.output, h.size, h.block⟩

set_option maxRecDepth 20000 in
set_option maxHeartbeats 1000000 in
/-- (places).less. -/
theorem less_any (b n cap i j : Nat) (h : Nat → Pl) (w : World) (H : PlBlk w b n h) (hi : i < n) (hj : j < n) :
    Calls Yba.prog 18 #[.slice (some ⟨b, 0, none⟩) n cap, .int .i64 i, .int .i64 j] w fun e w' => e = .returned (.bool (ltB (h i) (h j))) ∧ ∃ m, w' = w.drewN m := by
  have i0 := H.c0 hi
  have i1 := H.c1 hi
  have j0 := H.c0 hj
  have j1 := H.c1 hj
  have qi : (i : Int) < (n : Int) := by omega
  have qj : (j : Int) < (n : Int) := by omega
  clear H
  obtain ⟨⟨ki, si, ii⟩, hpi⟩ : ∃ p, h i = p := ⟨_, rfl⟩
  obtain ⟨⟨kj, sj, ij⟩, hpj⟩ : ∃ p, h j = p := ⟨_, rfl⟩
  rw [hpi] at i0 i1 ⊢
  rw [hpj] at j0 j1 ⊢
  simp only at i0 i1 j0 j1
  clear hpi hpj
  by_cases h1 : ki < kj
  · have hd : decide ((ki : Int) < (kj : Int)) = true := by simp; omega
    have hr : ltB ⟨ki, si, ii⟩ ⟨kj, sj, ij⟩ = true := by simp [ltB, h1]
    rw [hr]
    go_enter Yba.func18, Yba.ntmps18
    go_wp2
    go_quiet (fail)
    go_wp2
    go_ret
    exact ⟨rfl, _, rfl⟩
  · have hd : decide ((ki : Int) < (kj : Int)) = false := by simp; omega
    have hd' : decide (ki < kj) = false := by simp; omega
    by_cases h2 : ki = kj
    · have he : ((ki : Int) == (kj : Int)) = true := by simp; omega
      have he' : (ki == kj) = true := by simp; omega
      have hr : ltB ⟨ki, si, ii⟩ ⟨kj, sj, ij⟩ = decide (si < sj) := by simp [ltB, h2]
      rw [hr]
      clear h1 h2 hr
      go_enter Yba.func18, Yba.ntmps18
      go_wp2
      go_quiet (fail)
      go_wp2
      go_ret
      exact ⟨rfl, _, rfl⟩
    · have he : ((ki : Int) == (kj : Int)) = false := by simp; omega
      have he' : (ki == kj) = false := by simp; omega
      have hr : ltB ⟨ki, si, ii⟩ ⟨kj, sj, ij⟩ = false := by simp [ltB, h1, h2]
      rw [hr]
      go_enter Yba.func18, Yba.ntmps18
      go_wp2
      go_quiet (fail)
      go_wp2
      go_ret
      exact ⟨rfl, _, rfl⟩

theorem put_put_sw {w : World} {b n i c : Nat} {h : Nat → Pl} (H : PlBlk w b n h) (hi : i < n) (hc : c < n) (hne : c ≠ i) : PlBlk (putPl (putPl w b i (h c)) b c (h i)) b n (sw h i c) := by
  refine ((H.put i (h c) hi).put c (h i) hc).congr fun j _ => ?_
  unfold updP sw
  by_cases e : j = c
  · subst e; simp [hne]
  · by_cases e' : j = i
    · subst e'; simp [e]
    · simp [e, e']

theorem PlBlk.drewN {w : World} {b n : Nat} {h : Nat → Pl} (H : PlBlk w b n h) (m : Nat) : PlBlk (w.drewN m) b n h := H

theorem least_r {h : Nat → Pl} {n i : Nat} (h1 : 2 * i + 2 < n) (h2 : ltP (h (2 * i + 2)) (h (2 * i + 1))) : Least h n i (2 * i + 2) := by
  refine ⟨by omega, by omega, by omega, fun d h0 hd hp => ?_⟩
  have : d = 2 * i + 1 ∨ d = 2 * i + 2 := by omega
  rcases this with rfl | rfl
  · unfold ltP at *; omega
  · unfold ltP; omega
theorem least_l {h : Nat → Pl} {n i : Nat} (h1 : 2 * i + 1 < n) (h2 : 2 * i + 2 < n → ¬ ltP (h (2 * i + 2)) (h (2 * i + 1))) : Least h n i (2 * i + 1) := by
  refine ⟨by omega, by omega, by omega, fun d h0 hd hp => ?_⟩
  have : d = 2 * i + 1 ∨ d = 2 * i + 2 := by omega
  rcases this with rfl | rfl
  · unfold ltP; omega
  · exact h2 hd

/-- less, its indices as the walk writes them. -/
theorem less_int (b n cap i j : Nat) (x y : Int) (h : Nat → Pl) (w : World) (r : Bool) (H : PlBlk w b n h) (hx : x = (i : Int)) (hy : y = (j : Int)) (hi : i < n) (hj : j < n) (hr : ltB (h i) (h j) = r) :
    Calls Yba.prog 18 #[.slice (some ⟨b, 0, none⟩) n cap, .int .i64 x, .int .i64 y] w fun e w' => e = .returned (.bool r) ∧ ∃ m, w' = w.drewN m := by
  subst hx hy hr
  exact less_any b n cap i j h w H hi hj

/-- What down leaves. -/
structure Downed (w w' : World) (b n r : Nat) (h h' : Nat → Pl) : Prop where
  ok : Ok h' n r
  same : Same h h' n
  inj : Inj h n → Inj h' n
  blk : PlBlk w' b n h'
  grown : w.grownBy w' (some b)

theorem alloc_drewN (w : World) (n : Nat) (o : Obj) : (w.drewN n).alloc o = (w.alloc o).drewN n := rfl
theorem setCell_drewN (w : World) (n : Nat) (a : Addr) (v : Value) : (w.drewN n).setCell a v = (w.setCell a v).drewN n := rfl
attribute [local go_sem] alloc_drewN setCell_drewN

set_option maxRecDepth 20000 in
set_option maxHeartbeats 2000000 in
/-- (places).down. -/
theorem down_any (b n cap r : Nat) (h : Nat → Pl) (w : World) (H : PlBlk w b n h) (hr : r < n) (hn : n ≤ 100000) (hok : Ok h n (r + 1)) :
    Calls Yba.prog 15 #[.slice (some ⟨b, 0, none⟩) n cap, .int .i64 r] w fun e w' => e = .returned (.tuple #[]) ∧ ∃ h', Downed w w' b n r h h' := by
  have H0 := hide (show _ from hok)
  have HH := hide H
  clear hok H
  go_enter Yba.func15, Yba.ntmps15
  go_wp2
  go_loopg [1] (n - r) (fun gk s wr => ∃ (i : Nat) (g : Nat → Pl), s = .int .i64 i ∧ i < n ∧ gk + i = n ∧ Sift g n r i ∧ Same h g n ∧ (Inj h n → Inj g n) ∧ PlBlk wr b n g ∧ w.grownBy wr (some b))
  case atStart => exact ⟨r, h, rfl, hr, by omega, Sift.start H0.out, Same.refl _ _, id, HH.out, grown_refl _ _⟩
  case round =>
    obtain ⟨i, g, rfl, hi, hgk, hS, hSame, hInj, hP, hG⟩ := hrel
    have F := hide (And.intro hS (And.intro hSame (And.intro hInj (And.intro hP hG))))
    by_cases hleaf : n ≤ 2 * i + 1
    · clear hS hSame hInj hP hG
      go_wp2
      exact bodyPost_ret (v := .tuple #[]) (by simp [results, Yba.results15, go_sem]) rfl ⟨rfl, g, F.out.1.leaf hleaf, F.out.2.1, F.out.2.2.1, F.out.2.2.2.1, F.out.2.2.2.2⟩
    · obtain ⟨c, hc, hcase⟩ : ∃ c, Least g n i c ∧ ((c = 2 * i + 2 ∧ ltB (g (2 * i + 2)) (g (2 * i + 1)) = true) ∨ (c = 2 * i + 1 ∧ 2 * i + 2 < n ∧ ltB (g (2 * i + 2)) (g (2 * i + 1)) = false) ∨ (c = 2 * i + 1 ∧ n ≤ 2 * i + 2)) := by
        by_cases h2 : 2 * i + 2 < n
        · cases hb : ltB (g (2 * i + 2)) (g (2 * i + 1)) with
          | true => exact ⟨2 * i + 2, least_r h2 (ltB_iff.1 hb), .inl ⟨rfl, rfl⟩⟩
          | false => exact ⟨2 * i + 1, least_l (by omega) (fun _ => ltB_false.1 hb), .inr (.inl ⟨rfl, h2, rfl⟩)⟩
        · exact ⟨2 * i + 1, least_l (by omega) (fun h => absurd h h2), .inr (.inr ⟨rfl, by omega⟩)⟩
      have hcn := hc.lt
      have hci : c ≠ i := by have := hc.par; have := hc.pos; omega
      have i0 := hP.c0 hi
      have i1 := hP.c1 hi
      have i2 := hP.c2 hi
      have c0 := hP.c0 hcn
      have c1 := hP.c1 hcn
      have c2 := hP.c2 hcn
      have fr := hP.free
      have HCs := hide hc
      clear hS hSame hInj hP hG hc H0 HH
      rcases hcase with ⟨hce, hb⟩ | ⟨hce, hlt, hb⟩ | ⟨hce, hne⟩
      · have HCE := hide hce
        clear hce
        have HB := hide hb
        clear hb
        have hlt : 2 * i + 2 < n := by have := HCE.out; omega
        go_wp2_with (go_at_call 18; refine (less_int b n cap (2 * i + 2) (2 * i + 1) _ _ g _ true F.out.2.2.2.1 ?_ ?_ (by omega) (by omega) HB.out).mono ?_; (push_cast; omega); (push_cast; omega); rintro e w' ⟨rfl, m, rfl⟩)
        cases hb2 : ltB (g c) (g i) with
        | false =>
          go_fit (less_int b n cap c i _ (i : Int) g _ false (F.out.2.2.2.1.drewN m) (show 2 * (i : Int) + 1 + 1 = (c : Int) by have := HCE.out; omega) rfl hcn hi hb2)
          rintro e w' ⟨rfl, m2, rfl⟩
          go_wp2
          exact bodyPost_ret (v := .tuple #[]) (by simp [results, Yba.results15, go_sem]) rfl ⟨rfl, g, F.out.1.done HCs.out (ltB_false.1 hb2), F.out.2.1, F.out.2.2.1, F.out.2.2.2.1.drewN _, grown_drewN _ F.out.2.2.2.2⟩
        | true =>
          go_fit (less_int b n cap c i _ (i : Int) g _ true (F.out.2.2.2.1.drewN m) (show 2 * (i : Int) + 1 + 1 = (c : Int) by have := HCE.out; omega) rfl hcn hi hb2)
          rintro e w' ⟨rfl, m2, rfl⟩
          have HB2 := hide hb2
          clear hb2
          go_wp2_with fail
          rw [(show 2 * (i : Int) + 1 + 1 = (c : Int) by have := HCE.out; omega)]
          go_big_region
          go_wp2
          go_roundg (n - c)
          case measure => have := HCE.out; omega
          case rel =>
            refine ⟨c, sw g i c, rfl, hcn, by omega, F.out.1.step HCs.out (ltB_iff.1 HB2.out), F.out.2.1.trans (Same.sw hi hcn hci), fun hj => (F.out.2.2.1 hj).sw hi hcn hci, ?_, ?_⟩
            · exact (put_put_sw F.out.2.2.2.1 hi hcn hci).drewN _
            · exact grown_drewN _ (grown_trans F.out.2.2.2.2 (grown_trans (grown_put wr b i (g c)) (grown_put _ b c (g i))))
      · have HCE := hide hce
        clear hce
        have HB := hide hb
        clear hb
        go_wp2_with (go_at_call 18; refine (less_int b n cap (2 * i + 2) (2 * i + 1) _ _ g _ false F.out.2.2.2.1 ?_ ?_ (by omega) (by omega) HB.out).mono ?_; (push_cast; omega); (push_cast; omega); rintro e w' ⟨rfl, m, rfl⟩)
        cases hb2 : ltB (g c) (g i) with
        | false =>
          go_fit (less_int b n cap c i _ (i : Int) g _ false (F.out.2.2.2.1.drewN m) (show 2 * (i : Int) + 1 = (c : Int) by have := HCE.out; omega) rfl hcn hi hb2)
          rintro e w' ⟨rfl, m2, rfl⟩
          go_wp2
          exact bodyPost_ret (v := .tuple #[]) (by simp [results, Yba.results15, go_sem]) rfl ⟨rfl, g, F.out.1.done HCs.out (ltB_false.1 hb2), F.out.2.1, F.out.2.2.1, F.out.2.2.2.1.drewN _, grown_drewN _ F.out.2.2.2.2⟩
        | true =>
          go_fit (less_int b n cap c i _ (i : Int) g _ true (F.out.2.2.2.1.drewN m) (show 2 * (i : Int) + 1 = (c : Int) by have := HCE.out; omega) rfl hcn hi hb2)
          rintro e w' ⟨rfl, m2, rfl⟩
          have HB2 := hide hb2
          clear hb2
          go_wp2_with fail
          rw [(show 2 * (i : Int) + 1 = (c : Int) by have := HCE.out; omega)]
          go_big_region
          go_wp2
          go_roundg (n - c)
          case measure => have := HCE.out; omega
          case rel =>
            refine ⟨c, sw g i c, rfl, hcn, by omega, F.out.1.step HCs.out (ltB_iff.1 HB2.out), F.out.2.1.trans (Same.sw hi hcn hci), fun hj => (F.out.2.2.1 hj).sw hi hcn hci, ?_, ?_⟩
            · exact (put_put_sw F.out.2.2.2.1 hi hcn hci).drewN _
            · exact grown_drewN _ (grown_trans F.out.2.2.2.2 (grown_trans (grown_put wr b i (g c)) (grown_put _ b c (g i))))
      · have HCE := hide hce
        clear hce
        go_wp2_with fail
        cases hb2 : ltB (g c) (g i) with
        | false =>
          go_fit (less_int b n cap c i _ (i : Int) g _ false F.out.2.2.2.1 (show 2 * (i : Int) + 1 = (c : Int) by have := HCE.out; omega) rfl hcn hi hb2)
          rintro e w' ⟨rfl, m2, rfl⟩
          go_wp2
          exact bodyPost_ret (v := .tuple #[]) (by simp [results, Yba.results15, go_sem]) rfl ⟨rfl, g, F.out.1.done HCs.out (ltB_false.1 hb2), F.out.2.1, F.out.2.2.1, F.out.2.2.2.1.drewN _, grown_drewN _ F.out.2.2.2.2⟩
        | true =>
          go_fit (less_int b n cap c i _ (i : Int) g _ true F.out.2.2.2.1 (show 2 * (i : Int) + 1 = (c : Int) by have := HCE.out; omega) rfl hcn hi hb2)
          rintro e w' ⟨rfl, m2, rfl⟩
          have HB2 := hide hb2
          clear hb2
          go_wp2_with fail
          rw [(show 2 * (i : Int) + 1 = (c : Int) by have := HCE.out; omega)]
          go_big_region
          go_wp2
          go_roundg (n - c)
          case measure => have := HCE.out; omega
          case rel =>
            refine ⟨c, sw g i c, rfl, hcn, by omega, F.out.1.step HCs.out (ltB_iff.1 HB2.out), F.out.2.1.trans (Same.sw hi hcn hci), fun hj => (F.out.2.2.1 hj).sw hi hcn hci, ?_, ?_⟩
            · exact (put_put_sw F.out.2.2.2.1 hi hcn hci).drewN _
            · exact grown_drewN _ (grown_trans F.out.2.2.2.2 (grown_trans (grown_put wr b i (g c)) (grown_put _ b c (g i))))
end Go.Proofs.Ybulkbbhy.Mg
