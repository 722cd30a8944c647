/-
  newReplica (4) BY ITS CONTRACT.
-/
import Derived.Test.YbulkbbgwVoD
namespace Go.Proofs.Ybulkbbgw.Vo
open Go.RowKit

theorem Yba.info2 : (Yba.prog.info? 2).map (fun i => (i.zero, i.size, i.bytes)) = some (some (.int .i64 0), 1, 8) := by kernel_rfl

theorem Conf.later {w w' w2 : World} {N cb ib lb : Nat} (h : Conf w w' N cb ib lb) (hc : cb < w'.heap.size) (hb : Below w'.heap.size w' w2) : Conf w w2 N cb ib lb :=
  ⟨h.below.trans (hb.mono h.below.size), (hb.cell (p := ⟨cb, 0, none⟩) hc).trans h.c0, (hb.cell (p := ⟨cb, 1, none⟩) hc).trans h.c1, (hb.cell (p := ⟨cb, 6, none⟩) hc).trans h.c6, h.inn.of_block (hb.block _ h.inn.lt), h.lost.of_block (hb.block _ h.lost.lt), h.ge, h.ne⟩

theorem World.heap_size_drew' (w : World) : w.drew.heap.size = w.heap.size := rfl
theorem World.heap_size_alloc' (w : World) (o : Obj) : (w.alloc o).heap.size = w.heap.size + 1 := by simp
/-- What newReplica leaves: the struct in block rb, its cells in eb, its configuration in cb. -/
structure RS (w w' : World) (N C pb rb eb cb ib lb : Nat) : Prop where
  below : Below w.heap.size w w'
  r0 : w'.cell? ⟨rb, 0, none⟩ = some (.pointer (some ⟨pb, 0, none⟩))
  r1 : w'.cell? ⟨rb, 1, none⟩ = some (.int .i64 1)
  r2 : w'.cell? ⟨rb, 2, none⟩ = some (.slice (some ⟨eb, 0, none⟩) (C + 1) (C + 1))
  r4 : w'.cell? ⟨rb, 4, none⟩ = some (.slice none 0 0)
  r5 : w'.cell? ⟨rb, 5, none⟩ = some (.pointer (some ⟨cb, 0, none⟩))
  rf : ∀ j, w'.frozen? ⟨rb, j, none⟩ = false
  cells : w'.rowIs eb 2 (C + 1) (fun _ => .int .i64 0)
  c0 : w'.cell? ⟨cb, 0, none⟩ = some (.int .i64 0)
  c1 : w'.cell? ⟨cb, 1, none⟩ = some (.slice (some ⟨ib, 0, none⟩) N N)
  c6 : w'.cell? ⟨cb, 6, none⟩ = some (.slice (some ⟨lb, 0, none⟩) N N)
  inn : w'.rowIs ib 4 N (fun _ => .bool true)
  lost : w'.rowIs lb 4 N (fun _ => .bool false)
  ge : w.heap.size ≤ rb ∧ w.heap.size ≤ eb ∧ w.heap.size ≤ cb ∧ w.heap.size ≤ ib ∧ w.heap.size ≤ lb
  lt : rb < w'.heap.size
  nr : rb ≠ eb ∧ rb ≠ cb ∧ rb ≠ ib ∧ rb ≠ lb
  ne : eb ≠ cb ∧ eb ≠ ib ∧ eb ≠ lb
  nc : cb ≠ ib ∧ cb ≠ lb ∧ ib ≠ lb
theorem Conf.lt {w w' : World} {N cb ib lb : Nat} (h : Conf w w' N cb ib lb) : cb < w'.heap.size := by simpa using World.block_lt_of_cell? _ _ h.c0
theorem rs_mk {w W wl : World} {N C pb eb cb ib lb : Nat} (rb : Nat) (hrb : wl.heap.size = rb) (hb : Below w.heap.size w wl) (he : wl.rowIs eb 2 (C + 1) (fun _ => .int .i64 0)) (hc : Conf W wl N cb ib lb) (hW : w.heap.size ≤ W.heap.size) (hge : w.heap.size ≤ eb) (hne : eb ≠ cb ∧ eb ≠ ib ∧ eb ≠ lb) (room : Value) :
    RS w (wl.alloc (.cells #[.pointer (some ⟨pb, 0, none⟩), .int .i64 1, .slice (some ⟨eb, 0, none⟩) (C + 1) (C + 1), room, .slice none 0 0, .pointer (some ⟨cb, 0, none⟩)] 41)) N C pb rb eb cb ib lb := by
  subst hrb
  obtain ⟨g1, g2, g3⟩ := hc.ge
  have l1 := hc.lt
  have l2 := hc.inn.lt
  have l3 := hc.lost.lt
  have l4 := he.lt
  have hs := hb.size
  exact ⟨hb.alloc hb.size _, (cell_of_row _ _ _ _ _ _ (heap_alloc_new _ _)).trans rfl, (cell_of_row _ _ _ _ _ _ (heap_alloc_new _ _)).trans rfl, (cell_of_row _ _ _ _ _ _ (heap_alloc_new _ _)).trans rfl, (cell_of_row _ _ _ _ _ _ (heap_alloc_new _ _)).trans rfl, (cell_of_row _ _ _ _ _ _ (heap_alloc_new _ _)).trans rfl,
    fun j => frozen_of_row _ _ _ _ _ (heap_alloc_new _ _), he.alloc _, (World.cell?_alloc_past _ _ _ l1).trans hc.c0, (World.cell?_alloc_past _ _ _ l1).trans hc.c1, (World.cell?_alloc_past _ _ _ l1).trans hc.c6, hc.inn.alloc _, hc.lost.alloc _,
    ⟨hs, hge, by omega, by omega, by omega⟩, by simp, ⟨by omega, by omega, by omega, by omega⟩, hne, hc.ne⟩

section
variable {w W W1 : World} {pb nb ncap C : Nat}
theorem nr_later (hpb : pb < w.heap.size) (hb1 : Below w.heap.size W W1) (hS : W.cell? ⟨pb, 0, none⟩ = some (.int .i64 2) ∧ W.cell? ⟨pb, 1, none⟩ = some (.slice (some ⟨nb, 0, none⟩) (C + 1) ncap) ∧ W.cell? ⟨pb, 6, none⟩ = some (.int .i64 0) ∧ Below w.heap.size w W) :
    W1.cell? ⟨pb, 0, none⟩ = some (.int .i64 2) ∧ W1.cell? ⟨pb, 1, none⟩ = some (.slice (some ⟨nb, 0, none⟩) (C + 1) ncap) ∧ W1.cell? ⟨pb, 6, none⟩ = some (.int .i64 0) ∧ Below w.heap.size w W1 :=
  ⟨(hb1.cell (p := ⟨pb, 0, none⟩) hpb).trans hS.1, (hb1.cell (p := ⟨pb, 1, none⟩) hpb).trans hS.2.1, (hb1.cell (p := ⟨pb, 6, none⟩) hpb).trans hS.2.2.1, hS.2.2.2.trans hb1⟩
theorem nr_call (hpb : pb < w.heap.size) {N cb ib lb : Nat} (hcf : Conf W W1 N cb ib lb) (hS : W.cell? ⟨pb, 0, none⟩ = some (.int .i64 2) ∧ W.cell? ⟨pb, 1, none⟩ = some (.slice (some ⟨nb, 0, none⟩) (C + 1) ncap) ∧ W.cell? ⟨pb, 6, none⟩ = some (.int .i64 0) ∧ Below w.heap.size w W) :
    W1.cell? ⟨pb, 0, none⟩ = some (.int .i64 2) ∧ W1.cell? ⟨pb, 1, none⟩ = some (.slice (some ⟨nb, 0, none⟩) (C + 1) ncap) ∧ W1.cell? ⟨pb, 6, none⟩ = some (.int .i64 0) ∧ Below w.heap.size w W1 :=
  nr_later hpb (hcf.below.mono hS.2.2.2.size) hS
theorem nr_alloc (hpb : pb < w.heap.size) (o : Obj) (hS : W.cell? ⟨pb, 0, none⟩ = some (.int .i64 2) ∧ W.cell? ⟨pb, 1, none⟩ = some (.slice (some ⟨nb, 0, none⟩) (C + 1) ncap) ∧ W.cell? ⟨pb, 6, none⟩ = some (.int .i64 0) ∧ Below w.heap.size w W) :
    (W.alloc o).cell? ⟨pb, 0, none⟩ = some (.int .i64 2) ∧ (W.alloc o).cell? ⟨pb, 1, none⟩ = some (.slice (some ⟨nb, 0, none⟩) (C + 1) ncap) ∧ (W.alloc o).cell? ⟨pb, 6, none⟩ = some (.int .i64 0) ∧ Below w.heap.size w (W.alloc o) :=
  nr_later hpb ((Below.refl _ _).alloc hS.2.2.2.size o) hS
theorem nr_alloc_drew (hpb : pb < w.heap.size) (o : Obj) (hS : W.drew.cell? ⟨pb, 0, none⟩ = some (.int .i64 2) ∧ W.drew.cell? ⟨pb, 1, none⟩ = some (.slice (some ⟨nb, 0, none⟩) (C + 1) ncap) ∧ W.drew.cell? ⟨pb, 6, none⟩ = some (.int .i64 0) ∧ Below w.heap.size w W.drew) :
    (W.alloc o).drew.cell? ⟨pb, 0, none⟩ = some (.int .i64 2) ∧ (W.alloc o).drew.cell? ⟨pb, 1, none⟩ = some (.slice (some ⟨nb, 0, none⟩) (C + 1) ncap) ∧ (W.alloc o).drew.cell? ⟨pb, 6, none⟩ = some (.int .i64 0) ∧ Below w.heap.size w (W.alloc o).drew :=
  nr_later (W1 := (W.alloc o).drew) hpb (((Below.refl _ W.drew).alloc hS.2.2.2.size o)) hS
theorem nr_start (hpb : pb < w.heap.size) (h0 : w.cell? ⟨pb, 0, none⟩ = some (.int .i64 2)) (h1 : w.cell? ⟨pb, 1, none⟩ = some (.slice (some ⟨nb, 0, none⟩) (C + 1) ncap)) (h6 : w.cell? ⟨pb, 6, none⟩ = some (.int .i64 0)) :
    w.drew.cell? ⟨pb, 0, none⟩ = some (.int .i64 2) ∧ w.drew.cell? ⟨pb, 1, none⟩ = some (.slice (some ⟨nb, 0, none⟩) (C + 1) ncap) ∧ w.drew.cell? ⟨pb, 6, none⟩ = some (.int .i64 0) ∧ Below w.heap.size w w.drew :=
  nr_later hpb ((Below.refl _ w).drew) ⟨h0, h1, h6, Below.refl _ _⟩
end

set_option linter.unusedSimpArgs false in
set_option maxRecDepth 20000 in
set_option maxHeartbeats 2000000 in
theorem newReplica_any (N C pb nb ncap : Nat) (w : World) (hN : N ≤ 8) (hC : C ≤ 4) (hpb : pb < w.heap.size)
    (h0 : w.cell? ⟨pb, 0, none⟩ = some (.int .i64 2)) (h1 : w.cell? ⟨pb, 1, none⟩ = some (.slice (some ⟨nb, 0, none⟩) (C + 1) ncap)) (h6 : w.cell? ⟨pb, 6, none⟩ = some (.int .i64 0)) :
    Calls Yba.prog 4 #[.pointer (some ⟨pb, 0, none⟩), .int .i64 0, .int .i64 N] w fun e w' => ∃ rb eb cb ib lb, e = .returned (.pointer (some ⟨rb, 0, none⟩)) ∧ RS w w' N C pb rb eb cb ib lb := by
  have k1 : ∀ w, (Instr.makeSlice 36 (.int .i64 ((C : Int) + 1)) (.int .i64 ((C : Int) + 1))).run Yba.prog w = .ok (.slice (some ⟨w.heap.size, 0, none⟩) (C + 1) (C + 1)) (w.alloc (.cells (madeCells #[.int .i64 0] (C + 1)) 2)) := by
    intro w
    have := run_make_gen (P := Yba.prog) 36 2 (.int .i64 0) 8 Yba.underlying36 Yba.info2 rfl (C + 1) (C + 1) (Nat.le_refl _) (by omega) (by omega) w
    simpa only [Int.natCast_add, Int.natCast_one] using this
  have k0 : ∀ w, (Instr.makeSlice 36 (.int .i64 0) (.int .i64 0)).run Yba.prog w = .ok (.slice (some ⟨w.heap.size, 0, none⟩) 0 0) (w.alloc (.cells (madeCells #[.int .i64 0] 0) 2)) :=
    run_make_gen (P := Yba.prog) 36 2 (.int .i64 0) 8 Yba.underlying36 Yba.info2 rfl 0 0 (Nat.le_refl _) (by omega) (by omega)
  have K11 := fun w' => hide (newConf_any N w' hN)
  go_enter Yba.func4, Yba.ntmps4
  go_wp2
  go_region_held3 (fun W => W.cell? ⟨pb, 0, none⟩ = some (.int .i64 2) ∧ W.cell? ⟨pb, 1, none⟩ = some (.slice (some ⟨nb, 0, none⟩) (C + 1) ncap) ∧ W.cell? ⟨pb, 6, none⟩ = some (.int .i64 0) ∧ Below w.heap.size w W)
    (first | exact nr_start hpb h0 h1 h6 | exact nr_call hpb (by assumption) (by assumption) | exact nr_alloc_drew hpb _ (by assumption) | exact nr_alloc hpb _ (by assumption))
    (first | (go_at_call 11; refine (K11 _).out.mono ?_; rintro e w1 ⟨cb, ib, lb, rfl, hcf⟩))
  · go_wp2
    go_ret
    have hW := hcf.below.size
    obtain ⟨g1, g2, g3⟩ := hcf.ge
    have l1 := hcf.lt
    have l2 := hcf.inn.lt
    have l3 := hcf.lost.lt
    simp only [World.heap_size_drew', World.heap_size_alloc'] at g1 g2 g3 hW
    have hb : Below w.heap.size w w1 := (((Below.refl w.heap.size w).alloc (Nat.le_refl _) _).alloc (by simp) _).drew.trans (hcf.below.mono (by rw [World.heap_size_drew', World.heap_size_alloc', World.heap_size_alloc']; omega))
    have he : World.rowIs w1 (w.heap.size) 2 (C + 1) (fun _ => .int .i64 0) := ((World.rowIs_made w _ _ _).alloc _).of_block (hcf.below.block w.heap.size (by simp; omega))
    have hc := hcf
    exact ⟨_, _, _, _, _, rfl, rs_mk _ (by simp) hb he hc (by simp only [World.heap_size_drew', World.heap_size_alloc']; omega) (by omega) ⟨by omega, by omega, by omega⟩ _⟩
  · go_wp2
    go_ret
    have hW := hcf.below.size
    obtain ⟨g1, g2, g3⟩ := hcf.ge
    have l1 := hcf.lt
    have l2 := hcf.inn.lt
    have l3 := hcf.lost.lt
    simp only [World.heap_size_drew', World.heap_size_alloc'] at g1 g2 g3 hW
    have hb : Below w.heap.size w (w1.alloc (.cells (madeCells #[.int .i64 0] 0) 2)) := (((Below.refl w.heap.size w).alloc (Nat.le_refl _) _).drew.trans (hcf.below.mono (by rw [World.heap_size_drew', World.heap_size_alloc']; omega))).alloc (by omega) _
    have he : World.rowIs (w1.alloc (.cells (madeCells #[.int .i64 0] 0) 2)) (w.heap.size) 2 (C + 1) (fun _ => .int .i64 0) := ((World.rowIs_made w _ _ _).of_block (hcf.below.block w.heap.size (by simp))).alloc _
    have hc := hcf.later hcf.lt ((Below.refl _ w1).alloc (Nat.le_refl _) (.cells (madeCells #[.int .i64 0] 0) 2))
    exact ⟨_, _, _, _, _, rfl, rs_mk _ (by simp) hb he hc (by simp only [World.heap_size_drew', World.heap_size_alloc']; omega) (by omega) ⟨by omega, by omega, by omega⟩ _⟩
  · go_wp2
    go_ret
    have hW := hcf.below.size
    obtain ⟨g1, g2, g3⟩ := hcf.ge
    have l1 := hcf.lt
    have l2 := hcf.inn.lt
    have l3 := hcf.lost.lt
    simp only [World.heap_size_drew', World.heap_size_alloc'] at g1 g2 g3 hW
    have hb : Below w.heap.size w w1 := (((Below.refl w.heap.size w).alloc (Nat.le_refl _) _).alloc (by simp) _).drew.trans (hcf.below.mono (by rw [World.heap_size_drew', World.heap_size_alloc', World.heap_size_alloc']; omega))
    have he : World.rowIs w1 (w.heap.size + 1) 2 (C + 1) (fun _ => .int .i64 0) := by
      have hr := (World.rowIs_made (w.alloc (.cells (madeCells #[.int .i64 0] 0) 2)) (.int .i64 0) (C + 1) 2).of_block (w' := w1) (hcf.below.block _ (by simp))
      simpa using hr
    have hc := hcf
    exact ⟨_, _, _, _, _, rfl, rs_mk _ (by simp) hb he hc (by simp only [World.heap_size_drew', World.heap_size_alloc']; omega) (by omega) ⟨by omega, by omega, by omega⟩ _⟩
  · go_wp2
    go_ret
    have hW := hcf.below.size
    obtain ⟨g1, g2, g3⟩ := hcf.ge
    have l1 := hcf.lt
    have l2 := hcf.inn.lt
    have l3 := hcf.lost.lt
    simp only [World.heap_size_drew', World.heap_size_alloc'] at g1 g2 g3 hW
    have hb : Below w.heap.size w (w1.alloc (.cells (madeCells #[.int .i64 0] (C + 1)) 2)) := (((Below.refl w.heap.size w).alloc (Nat.le_refl _) _).drew.trans (hcf.below.mono (by rw [World.heap_size_drew', World.heap_size_alloc']; omega))).alloc (by omega) _
    have he : World.rowIs (w1.alloc (.cells (madeCells #[.int .i64 0] (C + 1)) 2)) (w1.heap.size) 2 (C + 1) (fun _ => .int .i64 0) := World.rowIs_made w1 _ _ _
    have hc := hcf.later hcf.lt ((Below.refl _ w1).alloc (Nat.le_refl _) (.cells (madeCells #[.int .i64 0] (C + 1)) 2))
    exact ⟨_, _, _, _, _, rfl, rs_mk _ (by simp) hb he hc (by simp only [World.heap_size_drew', World.heap_size_alloc']; omega) (by omega) ⟨by omega, by omega, by omega⟩ _⟩
  · go_wp2
    go_ret
    have hW := hcf.below.size
    obtain ⟨g1, g2, g3⟩ := hcf.ge
    have l1 := hcf.lt
    have l2 := hcf.inn.lt
    have l3 := hcf.lost.lt
    simp only [World.heap_size_drew', World.heap_size_alloc'] at g1 g2 g3 hW
    have hb : Below w.heap.size w ((w1.alloc (.cells (madeCells #[.int .i64 0] (C + 1)) 2)).alloc (.cells (madeCells #[.int .i64 0] 0) 2)) := (((Below.refl w.heap.size w).drew.trans hcf.below).alloc (by omega) _).alloc (by simp; omega) _
    have he : World.rowIs ((w1.alloc (.cells (madeCells #[.int .i64 0] (C + 1)) 2)).alloc (.cells (madeCells #[.int .i64 0] 0) 2)) (w1.heap.size) 2 (C + 1) (fun _ => .int .i64 0) := (World.rowIs_made w1 _ _ _).alloc _
    have hc := hcf.later hcf.lt (((Below.refl _ w1).alloc (Nat.le_refl _) (.cells (madeCells #[.int .i64 0] (C + 1)) 2)).alloc (by simp) (.cells (madeCells #[.int .i64 0] 0) 2))
    exact ⟨_, _, _, _, _, rfl, rs_mk _ (by simp) hb he hc (by simp only [World.heap_size_drew', World.heap_size_alloc']; omega) (by omega) ⟨by omega, by omega, by omega⟩ _⟩
  · go_wp2
    go_ret
    have hW := hcf.below.size
    obtain ⟨g1, g2, g3⟩ := hcf.ge
    have l1 := hcf.lt
    have l2 := hcf.inn.lt
    have l3 := hcf.lost.lt
    simp only [World.heap_size_drew', World.heap_size_alloc'] at g1 g2 g3 hW
    have hb : Below w.heap.size w ((w1.alloc (.cells (madeCells #[.int .i64 0] 0) 2)).alloc (.cells (madeCells #[.int .i64 0] (C + 1)) 2)) := (((Below.refl w.heap.size w).drew.trans hcf.below).alloc (by omega) _).alloc (by simp; omega) _
    have he : World.rowIs ((w1.alloc (.cells (madeCells #[.int .i64 0] 0) 2)).alloc (.cells (madeCells #[.int .i64 0] (C + 1)) 2)) (w1.heap.size + 1) 2 (C + 1) (fun _ => .int .i64 0) := by
      have hr := World.rowIs_made (w1.alloc (.cells (madeCells #[.int .i64 0] 0) 2)) (.int .i64 0) (C + 1) 2
      simpa using hr
    have hc := hcf.later hcf.lt (((Below.refl _ w1).alloc (Nat.le_refl _) (.cells (madeCells #[.int .i64 0] 0) 2)).alloc (by simp) (.cells (madeCells #[.int .i64 0] (C + 1)) 2))
    exact ⟨_, _, _, _, _, rfl, rs_mk _ (by simp) hb he hc (by simp only [World.heap_size_drew', World.heap_size_alloc']; omega) (by omega) ⟨by omega, by omega, by omega⟩ _⟩
end Go.Proofs.Ybulkbbgw.Vo
