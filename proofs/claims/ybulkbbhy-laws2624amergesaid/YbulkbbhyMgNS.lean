/-
  THE MEMORY while (*mergedLists).next runs: what each of its steps does to it. No walk here.
-/
import Derived.Test.YbulkbbhyMgNew
namespace Go.Proofs.Ybulkbbhy.Mg
open Go.RowKit

/-- B: what was there before newMergedLists was called; w0: the world in which next was called. -/
structure NS (B : Nat) (w0 wr : World) (MB SB S hn hcap g : Nat) (h : Nat → Pl) (dv : Value) (dn : Nat) (d : Nat → Pl) (c : Int) : Prop where
  below : Below B w0 wr
  m : MAt wr MB (.slice (some ⟨SB, 0, none⟩) S S) (.slice (some ⟨g, 0, none⟩) hn hcap) dv (.int .u32 c)
  hB : B ≤ MB
  gB : B ≤ g
  blk : PlBlk wr g hn h
  gd : dv.ownBlock ≠ some g
  held : wr.ownsRow B 54 3 dv dn (plCells d dn)

/-- The place p that the round has copied: in block pb. -/
structure PB (B : Nat) (wr : World) (pb : Nat) (p : Pl) (g : Nat) (dv : Value) : Prop where
  at_ : wr.heap[pb]? = some (.cells #[.int .u64 p.k, .int .i64 p.s, .int .i64 p.i] 54 (0, 0))
  lt : B ≤ pb
  ng : pb ≠ g
  nd : dv.ownBlock ≠ some pb

variable {B MB SB S hn hcap g dn pb : Nat} {w0 wr w1 w2 : World} {h d : Nat → Pl} {dv : Value} {c : Int} {p : Pl}

theorem PlBlk.lt {w : World} {b n : Nat} {h : Nat → Pl} (H : PlBlk w b n h) : b < w.heap.size := by
  obtain ⟨cur, hb, _⟩ := H; exact lt_of_block hb

theorem NS.sz (hI : NS B w0 wr MB SB S hn hcap g h dv dn d c) : B ≤ wr.heap.size := by have := hI.m.lt; have := hI.hB; omega
theorem NS.gM (hI : NS B w0 wr MB SB S hn hcap g h dv dn d c) : g ≠ MB := hI.blk.ne hI.m

theorem owns_ne_M {w : World} {MB base n : Nat} {a b c d v : Value} {xs : List Value} (hm : MAt w MB a b c d) (ho : w.ownsRow base 54 3 v n xs) : v.ownBlock ≠ some MB := by
  intro e
  obtain ⟨_, ⟨rfl, _⟩ | ⟨g', cap, cur, rfl, _, hh, _⟩⟩ := ho
  · simp [Value.ownBlock] at e
  · simp only [Value.ownBlock, Option.some.injEq] at e
    subst e
    have e := hh.symm.trans hm
    injection e with e
    injection e with _ e2 _
    exact absurd e2 (by decide)

/-- The world goes on; nothing that is there turns. -/
theorem NS.later (hI : NS B w0 wr MB SB S hn hcap g h dv dn d c) (hb : Below wr.heap.size wr w1) : NS B w0 w1 MB SB S hn hcap g h dv dn d c where
  below := hI.below.trans (hb.mono hI.sz)
  m := hI.m.of_block (hb.block _ hI.m.lt)
  hB := hI.hB
  gB := hI.gB
  blk := hI.blk.of_block (hb.block _ hI.blk.lt)
  gd := hI.gd
  held := hI.held.kept (row := none) ⟨hb.os, hb.tape, hb.output, hb.size, fun k hk _ => hb.block k hk⟩ (by cases dv.ownBlock <;> simp)
theorem PB.later (hP : PB B wr pb p g dv) (hb : Below wr.heap.size wr w1) : PB B w1 pb p g dv :=
  ⟨(hb.block _ (lt_of_block hP.at_)).trans hP.at_, hP.lt, hP.ng, hP.nd⟩

/-- A new place block. -/
theorem NS.copy (hI : NS B w0 wr MB SB S hn hcap g h dv dn d c) (p : Pl) :
    NS B w0 (wr.alloc (.cells #[.int .u64 p.k, .int .i64 p.s, .int .i64 p.i] 54)) MB SB S hn hcap g h dv dn d c ∧ PB B (wr.alloc (.cells #[.int .u64 p.k, .int .i64 p.s, .int .i64 p.i] 54)) wr.heap.size p g dv := by
  refine ⟨hI.later ((Below.refl _ _).alloc (Nat.le_refl _) _), heap_alloc_new _ _, hI.sz, ?_, ?_⟩
  · have := hI.blk.lt; omega
  · intro e; have := (hI.held.lt _ e).2; omega

/-- The held row has got one place more, in place or moved. -/
theorem NS.append (hI : NS B w0 wr MB SB S hn hcap g h dv dn d c) (hP : PB B wr pb p g dv) (o : Obj) {gd' cap' : Nat}
    (hgrow : (wr.alloc o).grownBy w2 dv.ownBlock)
    (hown : w2.ownsRow B 54 3 (.slice (some ⟨gd', 0, none⟩) (dn + 1) cap') (dn + 1) (plCells d dn ++ [.int .u64 p.k, .int .i64 p.s, .int .i64 p.i]))
    (hat : dv.ownBlock = some gd' ∨ gd' = wr.heap.size + 1) :
    NS B w0 (w2.setCell ⟨MB, 2, none⟩ (.slice (some ⟨gd', 0, none⟩) (dn + 1) cap')) MB SB S hn hcap g h (.slice (some ⟨gd', 0, none⟩) (dn + 1) cap') (dn + 1) (updP d dn p) c ∧
    PB B (w2.setCell ⟨MB, 2, none⟩ (.slice (some ⟨gd', 0, none⟩) (dn + 1) cap')) pb p g (.slice (some ⟨gd', 0, none⟩) (dn + 1) cap') := by
  have hM := hI.m.lt
  have hneM : some MB ≠ dv.ownBlock := fun e => owns_ne_M hI.m hI.held e.symm
  have hg := hI.blk.lt
  have hpb := lt_of_block hP.at_
  have mw2 : MAt w2 MB (.slice (some ⟨SB, 0, none⟩) S S) (.slice (some ⟨g, 0, none⟩) hn hcap) dv (.int .u32 c) :=
    hI.m.of_block (by rw [hgrow.block _ (by simp; omega) hneM, Below.heap_alloc _ _ _ hM])
  have hgd' : gd' ≠ MB := fun e => owns_ne_M mw2 hown (by rw [← e]; rfl)
  have ne1 : gd' ≠ g := by
    rcases hat with e | e
    · intro e2; exact hI.gd (by rw [e, e2])
    · omega
  have ne2 : gd' ≠ pb := by
    rcases hat with e | e
    · intro e2; exact hP.nd (by rw [e, e2])
    · omega
  refine ⟨⟨?_, mw2.set2 _, hI.hB, hI.gB, ?_, ?_, ?_⟩, ?_, hP.lt, hP.ng, ?_⟩
  · refine (((hI.below.alloc hI.sz o).grown hgrow (by have := hI.sz; simp; omega) ?_).setCell hI.hB _)
    intro k e
    exact (hI.held.lt _ e).1
  · refine hI.blk.of_block ?_
    rw [heap_setCell_other _ _ _ _ hI.gM, hgrow.block _ (by simp; omega) (fun e => hI.gd e.symm), Below.heap_alloc _ _ _ hg]
  · intro e; simp only [Value.ownBlock, Option.some.injEq] at e; exact ne1 e
  · have e : plCells (updP d dn p) (dn + 1) = plCells d dn ++ [.int .u64 p.k, .int .i64 p.s, .int .i64 p.i] := by
      rw [plCells_succ, plCells_congr (h := updP d dn p) (h' := d) (fun j hj => by simp [updP, show j ≠ dn by omega])]
      simp [updP]
    rw [e]
    exact ownsRow_setCell_other hown (by intro e; simp only [Value.ownBlock, Option.some.injEq] at e; exact hgd' e) _
  · have hpM : pb ≠ MB := by
      rintro rfl
      have e := hP.at_.symm.trans hI.m
      injection e with e
      injection e with _ e2 _
      exact absurd e2 (by decide)
    rw [heap_setCell_other _ _ _ _ hpM, hgrow.block _ (by simp; omega) (fun e => hP.nd e.symm), Below.heap_alloc _ _ _ hpb]
    exact hP.at_
  · intro e; simp only [Value.ownBlock, Option.some.injEq] at e; exact ne2 e

/-- A store into the struct's own block. -/
theorem NS.count (hI : NS B w0 wr MB SB S hn hcap g h dv dn d c) (c' : Int) : NS B w0 (wr.setCell ⟨MB, 3, none⟩ (.int .u32 c')) MB SB S hn hcap g h dv dn d c' where
  below := hI.below.setCell hI.hB _
  m := hI.m.set3 _
  hB := hI.hB
  gB := hI.gB
  blk := hI.blk.of_block (heap_setCell_other _ _ _ _ hI.gM)
  gd := hI.gd
  held := ownsRow_setCell_other hI.held (owns_ne_M hI.m hI.held) _
theorem PB.setM (hP : PB B wr pb p g dv) {a b c d : Value} (hm : MAt wr MB a b c d) (j : Nat) (v : Value) : PB B (wr.setCell ⟨MB, j, none⟩ v) pb p g dv := by
  have hpM : pb ≠ MB := by
    rintro rfl
    have e := hP.at_.symm.trans hm
    injection e with e
    injection e with _ e2 _
    exact absurd e2 (by decide)
  exact ⟨by rw [heap_setCell_other _ _ _ _ hpM]; exact hP.at_, hP.lt, hP.ng, hP.nd⟩

/-- A place stored among the heads. -/
theorem NS.put (hI : NS B w0 wr MB SB S hn hcap g h dv dn d c) (j : Nat) (q : Pl) (hj : j < hn) : NS B w0 (putPl wr g j q) MB SB S hn hcap g (updP h j q) dv dn d c where
  below := ((hI.below.setCell hI.gB _).setCell hI.gB _).setCell hI.gB _
  m := hI.m.of_block (by have := hI.gM.symm; unfold putPl; rw [heap_setCell_other _ _ _ _ this, heap_setCell_other _ _ _ _ this, heap_setCell_other _ _ _ _ this])
  hB := hI.hB
  gB := hI.gB
  blk := hI.blk.put j q hj
  gd := hI.gd
  held := ownsRow_setCell_other (ownsRow_setCell_other (ownsRow_setCell_other hI.held hI.gd _) hI.gd _) hI.gd _

/-- The heads are cut. -/
theorem NS.cut (hI : NS B w0 wr MB SB S hn hcap g h dv dn d c) (hn' : Nat) (hle : hn' ≤ hn) : NS B w0 (wr.setCell ⟨MB, 1, none⟩ (.slice (some ⟨g, 0, none⟩) hn' hcap)) MB SB S hn' hcap g h dv dn d c where
  below := hI.below.setCell hI.hB _
  m := hI.m.set1 _
  hB := hI.hB
  gB := hI.gB
  blk := (hI.blk.of_block (heap_setCell_other _ _ _ _ hI.gM)).mono hle
  gd := hI.gd
  held := ownsRow_setCell_other hI.held (owns_ne_M hI.m hI.held) _

/-- down at the root. -/
theorem NS.down (hI : NS B w0 wr MB SB S hn hcap g h dv dn d c) {r : Nat} {h' : Nat → Pl} (hd : Downed wr w1 g hn r h h') : NS B w0 w1 MB SB S hn hcap g h' dv dn d c where
  below := hI.below.grown hd.grown hI.sz (fun k e => by simp at e; have := hI.gB; omega)
  m := hI.m.of_block (hd.grown.block _ hI.m.lt (by have := hI.gM; simp; omega))
  hB := hI.hB
  gB := hI.gB
  blk := hd.blk
  gd := hI.gd
  held := hI.held.kept hd.grown (.inr hI.gd)

end Go.Proofs.Ybulkbbhy.Mg
