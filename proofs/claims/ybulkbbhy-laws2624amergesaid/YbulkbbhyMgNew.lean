/-
  trigrove.newMergedLists (9) BY ITS CONTRACT.
-/
import Derived.Test.YbulkbbhyMgState
import Derived.Deep.AppendLies
namespace Go.Proofs.Ybulkbbhy.Mg
open Go.RowKit

def plCells (h : Nat → Pl) (n : Nat) : List Value := (List.range n).flatMap fun j => [.int .u64 (h j).k, .int .i64 (h j).s, .int .i64 (h j).i]
theorem plCells_succ (h : Nat → Pl) (n : Nat) : plCells h (n + 1) = plCells h n ++ [.int .u64 (h n).k, .int .i64 (h n).s, .int .i64 (h n).i] := by
  simp [plCells, List.range_succ]
theorem plCells_length (h : Nat → Pl) : ∀ n, (plCells h n).length = n * 3
  | 0 => by simp [plCells]
  | n + 1 => by rw [plCells_succ]; simp [plCells_length h n]; omega
theorem plCells_congr {h h' : Nat → Pl} : ∀ {n : Nat}, (∀ j, j < n → h j = h' j) → plCells h n = plCells h' n
  | 0, _ => by simp [plCells]
  | n + 1, e => by rw [plCells_succ, plCells_succ, e n (by omega), plCells_congr (fun j hj => e j (by omega))]
theorem plCells_at (h : Nat → Pl) : ∀ (n j : Nat), j < n → (plCells h n)[j * 3]? = some (.int .u64 (h j).k) ∧ (plCells h n)[j * 3 + 1]? = some (.int .i64 (h j).s) ∧ (plCells h n)[j * 3 + 2]? = some (.int .i64 (h j).i)
  | 0, j, hj => absurd hj (by omega)
  | n + 1, j, hj => by
    have hl := plCells_length h n
    rw [plCells_succ]
    by_cases e : j = n
    · subst e
      rw [List.getElem?_append_right (by omega), List.getElem?_append_right (by omega), List.getElem?_append_right (by omega), hl]
      simp
    · have ih := plCells_at h n j (by omega)
      rw [List.getElem?_append_left (by omega), List.getElem?_append_left (by omega), List.getElem?_append_left (by omega)]
      exact ih

theorem PlBlk.of_owns {w : World} {base g n cap : Nat} {h : Nat → Pl} (ho : w.ownsRow base 54 3 (.slice (some ⟨g, 0, none⟩) n cap) n (plCells h n)) : PlBlk w g n h := by
  obtain ⟨_, ⟨hv, _⟩ | ⟨g', cap', cur, hv, _, hh, h1, h2, h3, h4⟩⟩ := ho
  · simp at hv
  · simp at hv
    obtain ⟨rfl, rfl⟩ := hv
    refine ⟨cur, hh, by rw [h3]; exact Nat.mul_le_mul_right 3 h1, fun j hj => ?_⟩
    have key : ∀ x, x < n * 3 → cur[x]? = (plCells h n)[x]? := fun x hx => by
      rw [← h4, List.getElem?_take_of_lt hx]; simp
    rw [key _ (by omega), key _ (by omega), key _ (by omega)]
    exact plCells_at h n j hj

theorem Heads.zero (n : Nat → Nat) (key : Nat → Nat → Nat) (pos : Nat → Nat) (h : Nat → Pl) : Heads n key pos 0 h 0 :=
  ⟨fun j hj => by omega, fun t ht => by omega, fun i j hi => by omega, by omega⟩
theorem Heads.skip {n : Nat → Nat} {key : Nat → Nat → Nat} {pos : Nat → Nat} {s hn : Nat} {h : Nat → Pl} (H : Heads n key pos s h hn) (hs : ¬ pos s < n s) : Heads n key pos (s + 1) h hn :=
  ⟨fun j hj => by obtain ⟨t, ht, r⟩ := H.src j hj; exact ⟨t, by omega, r⟩,
   fun t ht hp => by
    by_cases e : t = s
    · subst e; exact absurd hp hs
    · exact H.all t (by omega) hp,
   H.inj, by have := H.le; omega⟩
theorem Heads.add {n : Nat → Nat} {key : Nat → Nat → Nat} {pos : Nat → Nat} {s hn : Nat} {h : Nat → Pl} (H : Heads n key pos s h hn) (hs : pos s < n s) : Heads n key pos (s + 1) (updP h hn ⟨key s (pos s), s, pos s⟩) (hn + 1) := by
  have hseg : ∀ j, j < hn → (h j).s < s := fun j hj => by obtain ⟨t, ht, _, e⟩ := H.src j hj; rw [e]; exact ht
  refine ⟨?_, ?_, ?_, by have := H.le; omega⟩
  · intro j hj
    by_cases e : j = hn
    · subst e; exact ⟨s, by omega, hs, by simp [updP]⟩
    · obtain ⟨t, ht, r1, r2⟩ := H.src j (by omega)
      exact ⟨t, by omega, r1, by simp [updP, e, r2]⟩
  · intro t ht hp
    by_cases e : t = s
    · subst e; exact ⟨hn, by omega, by simp [updP]⟩
    · obtain ⟨j, hj, r⟩ := H.all t (by omega) hp
      exact ⟨j, by omega, by simp [updP, show j ≠ hn by omega, r]⟩
  · intro i j hi hj e
    by_cases ei : i = hn <;> by_cases ej : j = hn
    · omega
    · subst ei; simp [updP, ej] at e; have := hseg j (by omega); omega
    · subst ej; simp [updP, ei] at e; have := hseg i (by omega); omega
    · simp [updP, ei, ej] at e; exact H.inj i j (by omega) (by omega) e
theorem Heads.same {n : Nat → Nat} {key : Nat → Nat → Nat} {pos : Nat → Nat} {s hn : Nat} {h h' : Nat → Pl} (H : Heads n key pos s h hn) (hs : Same h h' hn) (hi : Inj h' hn) : Heads n key pos s h' hn :=
  ⟨fun j hj => by obtain ⟨l, hl, e⟩ := hs.2 j hj; rw [← e]; exact H.src l hl,
   fun t ht hp => by obtain ⟨j, hj, e⟩ := H.all t ht hp; obtain ⟨l, hl, e'⟩ := hs.1 j hj; exact ⟨l, hl, e'.trans e⟩,
   hi, H.le⟩

theorem Yba.info54 : (Yba.prog.info? 54).map (fun i => (i.zero, i.size, i.bytes)) = some (some (.agg #[.int .u64 0, .int .i64 0, .int .i64 0]), 3, 24) := by kernel_rfl
def appG (ats : Array TypeId) (ty : TypeId) (args : Array Value) : Sem Value := Builtin.append_ ats ty args
theorem app_g (ats : Array TypeId) (ty : TypeId) (args : Array Value) : Builtin.append_ ats ty args = appG ats ty args := rfl
theorem field75_0 (a b c d : Value) (w : World) : (Instr.field 75 (.agg #[a, b, c, d]) 0).run Yba.prog w = .ok a w := by kernel_rfl
theorem field75_3 (a b c d : Value) (w : World) : (Instr.field 75 (.agg #[a, b, c, d]) 3).run Yba.prog w = .ok d w := by kernel_rfl
attribute [local go_sem ↓] app_g
attribute [local go_sem] field75_0 field75_3
attribute [local go_sem] zero52 mlArr_ne mlArr_set0 alloc_drewN setCell_drewN

/-- While the heads are gathered: what lies there. -/
structure NewInv (w wr : World) (SB S : Nat) (n : Nat → Nat) (key : Nat → Nat → Nat) (s hn : Nat) (hv : Value) (h : Nat → Pl) : Prop where
  below : Below w.heap.size w wr
  m : MAt wr w.heap.size (.slice (some ⟨SB, 0, none⟩) S S) hv (.slice none 0 0) (.int .u32 0)
  owns : wr.ownsRow (w.heap.size + 1) 54 3 hv hn (plCells h hn)
  heads : Heads n key (fun _ => 0) s h hn

theorem NewInv.add {w wr w1 w2 : World} {SB S s hn : Nat} {n : Nat → Nat} {key : Nat → Nat → Nat} {hv v' : Value} {h : Nat → Pl} (hI : NewInv w wr SB S n key s hn hv h) (hs : 0 < n s) (o : Obj)
    (hb : Below wr.drew.heap.size wr.drew w1) (hgrow : (w1.alloc o).grownBy w2 hv.ownBlock)
    (hown : w2.ownsRow (w.heap.size + 1) 54 3 v' (hn + 1) (plCells h hn ++ [.int .u64 (key s 0), .int .i64 s, .int .i64 0])) :
    NewInv w (w2.setCell ⟨w.heap.size, 1, none⟩ v') SB S n key (s + 1) (hn + 1) v' (updP h hn ⟨key s 0, s, 0⟩) := by
  have hlt : w.heap.size < wr.heap.size := hI.m.lt
  have hsz : wr.heap.size ≤ w1.heap.size := hb.size
  have hb' : Below wr.heap.size wr w1 := ⟨hb.os, hb.tape, hb.output, hb.size, hb.block⟩
  have hne : some w.heap.size ≠ hv.ownBlock := fun e => by have := (hI.owns.lt _ e.symm).1; omega
  refine ⟨?_, ?_, ?_, hI.heads.add hs⟩
  · refine ((((hI.below.trans (hb'.mono (by omega))).alloc (by omega) o).grown hgrow (by simp; omega) ?_).setCell (Nat.le_refl _) _)
    intro k e
    have := (hI.owns.lt _ e).1
    omega
  · refine MAt.set1 (b := hv) (hI.m.of_block ?_) _
    rw [hgrow.block _ (by simp; omega) hne, Below.heap_alloc _ _ _ (by omega), hb'.block _ hlt]
  · have e : plCells (updP h hn ⟨key s 0, s, 0⟩) (hn + 1) = plCells h hn ++ [.int .u64 (key s 0), .int .i64 s, .int .i64 0] := by
      rw [plCells_succ, plCells_congr (h := updP h hn ⟨key s 0, s, 0⟩) (h' := h) (fun j hj => by simp [updP, show j ≠ hn by omega])]
      simp [updP]
    rw [e]
    exact ownsRow_setCell_below hown (by show w.heap.size < _; omega) _

/-- THE STATE between the calls of next. MB: the struct's block; g: the heads' row; B: what was there when newMergedLists was called. -/
structure MState (B : Nat) (wr : World) (MB SB S : Nat) (n : Nat → Nat) (key : Nat → Nat → Nat) (pos : Nat → Nat) (ao : Option Addr) (hn hcap g : Nat) (h : Nat → Pl) (dv : Value) (dn : Nat) (d : Nat → Pl) (c : Nat) : Prop where
  m : MAt wr MB (.slice (some ⟨SB, 0, none⟩) S S) (.slice ao hn hcap) dv (.int .u32 c)
  hB : B ≤ MB
  ao : 0 < hn → ao = some ⟨g, 0, none⟩ ∧ B ≤ g ∧ PlBlk wr g hn h ∧ dv.ownBlock ≠ some g
  held : wr.ownsRow B 54 3 dv dn (plCells d dn)
  heads : Heads n key pos S h hn
  ok : Ok h hn 0

theorem PlBlk.ne {w : World} {g n MB : Nat} {h : Nat → Pl} {a b c d : Value} (H : PlBlk w g n h) (hm : MAt w MB a b c d) : g ≠ MB := by
  rintro rfl
  obtain ⟨cur, hb, _⟩ := H
  have e := hb.symm.trans hm
  injection e with e
  injection e with _ e2 _
  exact absurd e2 (by decide)

/-- While the heads are put in order. -/
structure NewInv2 (w wr : World) (SB S : Nat) (n : Nat → Nat) (key : Nat → Nat → Nat) (ao : Option Addr) (hn cap g : Nat) (h : Nat → Pl) : Prop where
  below : Below w.heap.size w wr
  m : MAt wr w.heap.size (.slice (some ⟨SB, 0, none⟩) S S) (.slice ao hn cap) (.slice none 0 0) (.int .u32 0)
  ao : 0 < hn → ao = some ⟨g, 0, none⟩ ∧ w.heap.size + 1 ≤ g ∧ PlBlk wr g hn h
  heads : Heads n key (fun _ => 0) S h hn
  le : hn ≤ cap

theorem NewInv.two {w wr : World} {SB S hn : Nat} {n : Nat → Nat} {key : Nat → Nat → Nat} {hv : Value} {h : Nat → Pl} (hI : NewInv w wr SB S n key S hn hv h) : ∃ ao cap g, hv = .slice ao hn cap ∧ NewInv2 w wr SB S n key ao hn cap g h := by
  have ho := hI.owns
  obtain ⟨hl, ⟨hv0, h0⟩ | ⟨g, cap, cur, hv0, hb, hh, r⟩⟩ := hI.owns
  · subst h0
    subst hv0
    exact ⟨none, 0, 0, rfl, hI.below, hI.m, fun h => by omega, hI.heads, Nat.le_refl _⟩
  · subst hv0
    exact ⟨some ⟨g, 0, none⟩, cap, g, rfl, hI.below, hI.m, fun _ => ⟨rfl, hb, PlBlk.of_owns ho⟩, hI.heads, r.1⟩

theorem NewInv2.down {w wr w' : World} {SB S hn cap g r : Nat} {n : Nat → Nat} {key : Nat → Nat → Nat} {ao : Option Addr} {h h' : Nat → Pl} (hI : NewInv2 w wr SB S n key ao hn cap g h) (h0 : 0 < hn) (hd : Downed wr w' g hn r h h') : NewInv2 w w' SB S n key ao hn cap g h' := by
  obtain ⟨h1, h2, h3⟩ := hI.ao h0
  have hlt := hI.m.lt
  refine ⟨hI.below.grown hd.grown (by omega) (fun k e => by simp at e; omega), hI.m.of_block (hd.grown.block _ hlt (by simp; omega)), fun _ => ⟨h1, h2, hd.blk⟩, hI.heads.same hd.same (hd.inj hI.heads.inj), hI.le⟩

theorem down_int (b n cap r : Nat) (x : Int) (h : Nat → Pl) (w : World) (hx : x = (r : Int)) (H : PlBlk w b n h) (hr : r < n) (hn : n ≤ 100000) (hok : Ok h n (r + 1)) :
    Calls Yba.prog 15 #[.slice (some ⟨b, 0, none⟩) n cap, .int .i64 x] w fun e w' => e = .returned (.tuple #[]) ∧ ∃ h', Downed w w' b n r h h' := by
  subst hx
  exact down_any b n cap r h w H hr hn hok

set_option maxRecDepth 20000 in
set_option maxHeartbeats 1000000 in
theorem new_any (SB S : Nat) (n DB : Nat → Nat) (key cnt : Nat → Nat → Nat) (w : World) (hS : SegsAt w SB S n DB key cnt) (hN : Nums S n key cnt) (hS1 : S ≤ 256) :
    Calls Yba.prog 9 #[.slice (some ⟨SB, 0, none⟩) S S] w fun e w' => e = .returned (.pointer (some ⟨w.heap.size, 0, none⟩)) ∧ ∃ ao hn cap g h, NewInv2 w w' SB S n key ao hn cap g h ∧ Ok h hn 0 := by
  have HSg := hide hS
  have HN := hide hN
  clear hS hN
  go_enter Yba.func9, Yba.ntmps9
  go_wp2
  go_loopg [11] S (fun gk x wr => ∃ (s hn : Nat) (hv : Value) (h : Nat → Pl), x = .int .i64 s ∧ gk + s = S ∧ NewInv w wr SB S n key s hn hv h)
  case atStart =>
    exact ⟨0, 0, .slice none 0 0, fun _ => ⟨0, 0, 0⟩, rfl, by omega, (Below.refl _ _).alloc (Nat.le_refl _) _, heap_alloc_new _ _, World.ownsRow_nil _ _ _ _, Heads.zero _ _ _ _⟩
  case round =>
    obtain ⟨s, hn, hv, h, rfl, hgk, hI⟩ := hrel
    have HI := hide hI
    by_cases hlt : s < S
    · have hSr := HSg.out.later hI.below
      have hent := hide (segEntries hSr HN.out s hlt)
      have hqs : (s : Int) < (S : Int) := by omega
      by_cases hz : n s = 0
      · clear hI hSr
        go_wp2_with (go_at_call 13; refine hent.out.mono ?_; rintro e w' ⟨rfl, rfl⟩)
        go_roundg (S - (s + 1))
        case measure => omega
        case rel => exact ⟨s + 1, hn, hv, h, by go_num, by omega, HI.out.below, HI.out.m, HI.out.owns, HI.out.heads.skip (by omega)⟩
      · have hpos : 0 < n s := by omega
        have k14 : ∀ W, Below wr.heap.size wr W → Calls Yba.prog 14 #[.pointer (some ⟨SB, s * 10, none⟩), .int .i64 0] W fun e w' => (∃ y : Int, e = .returned (.agg #[.int .u64 (key s 0), .int .u64 0, .int .u64 y, .int .u32 (cnt s 0)])) ∧ Below W.heap.size W w' :=
          fun W hb => segEntry (hSr.later hb) HN.out s 0 hlt hpos
        have K14 := hide k14
        have hMlt := hI.m.lt
        have m1 := hI.m.c1
        have f1 := hI.m.free 1
        have hle := hI.heads.le
        have hneM : some w.heap.size ≠ hv.ownBlock := fun e => by have := (hI.owns.lt _ e.symm).1; omega
        obtain ⟨i0, hi, hz0, hz1, hz2⟩ := info_parts Yba.info54
        clear hI hSr k14
        go_wp2_with (go_at_call 13; refine hent.out.mono ?_; rintro e w' ⟨rfl, rfl⟩)
        go_region_with (go_at_call 14; refine (K14.out _ ?_).mono ?_; (exact (Below.refl _ _).drew); rintro e w1 ⟨⟨y, rfl⟩, hb⟩; obtain ⟨g, cap, w2, hrun, hown, hgrow, hat, hglt⟩ := run_append_lies (P := Yba.prog) (w1.alloc (.cells #[.int .u64 (key s 0), .int .i64 s, .int .i64 0] 54)) 46 46 (w.heap.size + 1) 54 i0 (.agg #[.int .u64 0, .int .i64 0, .int .i64 0]) 3 24 Yba.underlying46 hi hz0 hz1 hz2 rfl (by decide) hv hn _ ((HI.out.owns.kept (row := none) ⟨hb.os, hb.tape, hb.output, hb.size, fun k hk _ => hb.block k hk⟩ (by cases hv.ownBlock <;> simp)).alloc _) ⟨w1.heap.size, 0, none⟩ 1 1 [.int .u64 (key s 0), .int .i64 s, .int .i64 0] rfl (World.news_of_block (heap_alloc_new _ _)) (by intro u hu; simp at hu; rcases hu with rfl | rfl | rfl <;> rfl) (by decide) (by unfold maxLen; omega) (by omega) (by have := hb.size; simp at this ⊢; omega) _ rfl; rw [app_g] at hrun; have n1 : w1.cell? ⟨w.heap.size, 1, none⟩ = some hv := (hb.cell hMlt).trans m1; have hMlt1 : w.heap.size < w1.heap.size := Nat.lt_of_lt_of_le hMlt hb.size; have n2 : w2.cell? ⟨w.heap.size, 1, none⟩ = some hv := (hgrow.cell_far _ (by simp; omega) hneM).trans ((World.cell?_alloc_past _ _ _ hMlt1).trans n1); have n3 : w2.frozen? ⟨w.heap.size, 1, none⟩ = false := (hgrow.frozen_far _ (by simp; omega) hneM).trans ((World.frozen?_alloc_past _ _ _ hMlt1).trans ((hb.frozen hMlt).trans f1)); have FF := hide (And.intro hb (And.intro hown (And.intro hgrow (And.intro hat hglt)))); clear hb hown hgrow hat hglt)
        all_goals go_wp2
        all_goals go_roundg (S - (s + 1))
        all_goals first | omega | exact ⟨s + 1, hn + 1, .slice (some ⟨g, 0, none⟩) (hn + 1) cap, updP h hn ⟨key s 0, s, 0⟩, by go_num, by omega, HI.out.add hpos _ FF.out.1 FF.out.2.2.1 FF.out.2.1⟩
    · obtain rfl : s = S := by omega
      obtain ⟨ao, cap, g, rfl, hI2⟩ := hI.two
      have hle := hI.heads.le
      have m1 := hI2.m.c1
      have HI2 := hide hI2
      clear hI HI hI2
      go_wp2
      go_loopg [5] (hn / 2) (fun gk x wx => ∃ (i : Nat) (h' : Nat → Pl), x = .int .i64 ((i : Int) - 1) ∧ gk = i ∧ i ≤ hn / 2 ∧ NewInv2 w wx SB s n key ao hn cap g h' ∧ Ok h' hn i)
      case atStart => exact ⟨hn / 2, h, congrArg (Value.int .i64) (by omega), rfl, Nat.le_refl _, HI2.out, fun c h0 h1 h2 => by omega⟩
      case round =>
        obtain ⟨i, h', rfl, hgi, hi2, hJ, hok⟩ := hrel
        have m1' := hJ.m.c1
        by_cases hi0 : i = 0
        · subst hi0
          have HJ := hide (And.intro hJ hok)
          clear hJ hok
          go_wp2
          go_ret
          exact ⟨rfl, ao, hn, cap, g, h', HJ.out.1, HJ.out.2⟩
        · have hn0 : 0 < hn := by omega
          obtain ⟨rfl, hgB, hP⟩ := hJ.ao hn0
          have HD := hide (down_int g hn cap (i - 1) ((i : Int) - 1) h' wr (by omega) hP (by omega) (by omega) (by rw [show i - 1 + 1 = i by omega]; exact hok))
          have HJ := hide hJ
          clear hJ hok hP
          go_wp2_with (go_at_call 15; refine HD.out.mono ?_; rintro e w' ⟨rfl, h2, hd⟩; have HDD := hide hd; clear hd)
          go_roundg (i - 1)
          case measure => omega
          case rel => exact ⟨i - 1, h2, congrArg (Value.int .i64) (by omega), rfl, by omega, HJ.out.down hn0 HDD.out, HDD.out.ok⟩
end Go.Proofs.Ybulkbbhy.Mg
