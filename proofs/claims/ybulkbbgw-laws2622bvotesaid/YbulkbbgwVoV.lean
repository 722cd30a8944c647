/-
  (*Replica).voteCells (6) BY ITS CONTRACT.
-/
import Derived.Test.YbulkbbgwVoM
namespace Go.Proofs.Ybulkbbgw.Vo
open Go.RowKit
attribute [local go_sem ↓] app_g

theorem Yba.info49 : (Yba.prog.info? 49).map (fun i => (i.zero, i.size, i.bytes)) = some (some (.agg #[.int .i64 0, .bool false]), 2, 16) := by kernel_rfl
theorem Yba.info9 : (Yba.prog.info? 9).map (fun i => (i.zero, i.size, i.bytes)) = some (some (.string ⟨#[]⟩), 1, 16) := by kernel_rfl
theorem cellA_skip {inn : Nat → Bool} {N : Nat} {ctr : Nat → Rp} {bal : Nat → Nat → Rp} {start : Nat → Int} {k : Nat} (h : (wonI inn N ctr bal k).p = false) (c : Nat) : cellA inn N ctr bal start k c = cellA inn N ctr bal start (k + 1) c := by
  unfold cellA
  by_cases e : c = k
  · subst e; simp [h]
  · have h1 : c < k ↔ c < k + 1 := by omega
    simp only [h1]
theorem cellA_hit {inn : Nat → Bool} {N : Nat} {ctr : Nat → Rp} {bal : Nat → Nat → Rp} {start : Nat → Int} {k : Nat} (h : (wonI inn N ctr bal k).p = true) (c : Nat) : (if c = k then (wonI inn N ctr bal k).v else cellA inn N ctr bal start k c) = cellA inn N ctr bal start (k + 1) c := by
  unfold cellA
  by_cases e : c = k
  · subst e; simp [h]
  · have h1 : c < k ↔ c < k + 1 := by omega
    simp only [if_neg e, h1]
theorem VM.rebase {w wr : World} {N C rb pb eb cb lb fb : Nat} {cellv : Nat → Int} {lostv : Nat → Bool} {fl : List ByteArray} (h : VM w wr N C rb pb eb cb lb fb cellv lostv fl (.slice none 0 0) []) : VM wr wr N C rb pb eb cb lb fb cellv lostv fl (.slice none 0 0) [] :=
  ⟨GB.refl _ _, h.r0, h.r1, h.r2, h.r4, h.r5, h.rf, h.cells, h.lost, h.fail, World.ownsRow_nil _ _ _ _, ⟨Nat.lt_of_lt_of_le h.lts.1 h.gb.size, Nat.lt_of_lt_of_le h.lts.2.1 h.gb.size, Nat.lt_of_lt_of_le h.lts.2.2.1 h.gb.size, Nat.lt_of_lt_of_le h.lts.2.2.2 h.gb.size⟩, h.ne⟩

theorem VM.congrC {w wr : World} {N C rb pb eb cb lb fb : Nat} {cellv cellv' : Nat → Int} {lostv : Nat → Bool} {fl : List ByteArray} {dv : Value} {l : List Rp} (h : VM w wr N C rb pb eb cb lb fb cellv lostv fl dv l) (e : ∀ c, cellv c = cellv' c) : VM w wr N C rb pb eb cb lb fb cellv' lostv fl dv l :=
  ⟨h.gb, h.r0, h.r1, h.r2, h.r4, h.r5, h.rf, h.cells.congr (fun i _ => by rw [e]), h.lost, h.fail, h.held, h.lts, h.ne⟩
theorem owns_reset {w : World} {base n : Nat} {a : Option Addr} {m cap : Nat} {xs : List Value} (ho : w.ownsRow base 49 2 (.slice a m cap) n xs) : w.ownsRow base 49 2 (.slice a 0 cap) 0 [] := by
  obtain ⟨hl, ⟨hv, h0⟩ | ⟨g', cap', cur, hv, hb, hh, h1, h2, h3, h4⟩⟩ := ho
  · simp at hv
    obtain ⟨rfl, rfl, rfl⟩ := hv
    exact World.ownsRow_nil _ _ _ _
  · simp at hv
    obtain ⟨rfl, rfl, rfl⟩ := hv
    exact ⟨by simp, .inr ⟨g', cap, cur, rfl, hb, hh, by omega, h2, h3, by simp⟩⟩
theorem owns_slice {w : World} {base n : Nat} {v : Value} {xs : List Value} (ho : w.ownsRow base 49 2 v n xs) : ∃ a cap, v = .slice a n cap ∧ n ≤ cap := by
  obtain ⟨hl, ⟨hv, h0⟩ | ⟨g', cap', cur, hv, hb, hh, h1, h2, h3, h4⟩⟩ := ho
  · exact ⟨none, 0, by rw [hv, h0], by omega⟩
  · exact ⟨_, cap', hv, h1⟩
/-- The slot that the round is about. -/
def VQ (w : World) (vq k : Nat) : Prop := ∃ x : Value, w.heap[vq]? = some (.cells #[x, .int .i64 k] 28 (0, 0))
section
variable {w0 wr w1 : World} {N C rb pb eb cb lb fb vq k : Nat} {cellv : Nat → Int} {lostv : Nat → Bool} {fl : List ByteArray} {dv : Value} {l : List Rp}
theorem VQ.c1 (h : VQ wr vq k) : wr.cell? ⟨vq, 1, none⟩ = some (.int .i64 k) := by obtain ⟨x, hx⟩ := h; exact (cell_of_row _ _ _ _ _ _ hx).trans rfl
theorem VQ.lt (h : VQ wr vq k) : vq < wr.heap.size := by obtain ⟨x, hx⟩ := h; exact lt_of_block hx
theorem VQ.of_block (h : VQ wr vq k) (e : w1.heap[vq]? = wr.heap[vq]?) : VQ w1 vq k := by obtain ⟨x, hx⟩ := h; exact ⟨x, e.trans hx⟩
theorem VQ.ne_row (h : VQ wr vq k) {b n : Nat} {t : TypeId} {f : Nat → Value} (hr : wr.rowIs b t n f) (ht : t ≠ 28) : vq ≠ b := by
  rintro rfl
  obtain ⟨x, hx⟩ := h
  obtain ⟨c, hc, _⟩ := hr
  have e := hc.symm.trans hx
  injection e with e
  injection e with _ e2 _
  exact ht e2
theorem VQ.ne_own (h : VQ wr vq k) (hM : VM w0 wr N C rb pb eb cb lb fb cellv lostv fl dv l) : dv.ownBlock ≠ some vq := by
  intro e
  obtain ⟨x, hx⟩ := h
  obtain ⟨_, ⟨rfl, _⟩ | ⟨g', cap, cur, rfl, _, hh, _⟩⟩ := hM.held
  · simp [Value.ownBlock] at e
  · simp only [Value.ownBlock, Option.some.injEq] at e
    subst e
    have e := hh.symm.trans hx
    injection e with e
    injection e with _ e2 _
    exact absurd e2 (by decide)
theorem VQ.ne_r (h : VQ wr vq k) (hM : VM w0 wr N C rb pb eb cb lb fb cellv lostv fl dv l) : vq ≠ rb := by
  rintro rfl
  obtain ⟨x, hx⟩ := h
  have h0 := hM.r5
  rw [cell_of_row _ _ _ _ _ _ hx] at h0
  simp at h0
theorem VM.setN (h : VM w0 wr N C rb pb eb cb lb fb cellv lostv fl dv l) {b : Nat} (hb : w0.heap.size ≤ b) (hd : dv.ownBlock ≠ some b) (o : Nat) (v : Value) : VM w0 (wr.setCell ⟨b, o, none⟩ v) N C rb pb eb cb lb fb cellv lostv fl dv l := by
  obtain ⟨l1, l2, l3, l4⟩ := h.lts
  have hcell : ∀ j, (wr.setCell ⟨b, o, none⟩ v).cell? ⟨rb, j, none⟩ = wr.cell? ⟨rb, j, none⟩ := fun j => World.cell?_of_block (a := ⟨rb, j, none⟩) (heap_setCell_other _ _ _ _ (show rb ≠ b by omega))
  exact h.turn (h.gb.grown (grown_set wr b o v) (fun k e => by simp at e; right; omega)) (fun j _ => hcell j) ((hcell 4).trans h.r4) (fun j => (World.frozen?_of_block (a := ⟨rb, j, none⟩) (heap_setCell_other _ _ _ _ (show rb ≠ b by omega))).trans (h.rf j)) (h.cells.setOther (show eb ≠ b by omega) _) (h.lost.setOther (show lb ≠ b by omega) _) (h.fail.of_block (heap_setCell_other _ _ _ _ (show fb ≠ b by omega))) (ownsRow_setCell_other h.held hd _)
theorem RpBlk.ne_row {b n : Nat} {t : TypeId} {f : Nat → Value} {q : Nat} {r : Rp} (h : RpBlk wr q r) (hr : wr.rowIs b t n f) (ht : t ≠ 49) : q ≠ b := by
  rintro rfl
  obtain ⟨c, hc, _⟩ := hr
  have e := hc.symm.trans h
  injection e with e
  injection e with _ e2 _
  exact ht e2
theorem VM.reports {ao : Option Addr} {cap : Nat} (h : VM w0 wr N C rb pb eb cb lb fb cellv lostv fl (.slice ao l.length cap) l) : ∃ gq, 0 < l.length → ao = some ⟨gq, 0, none⟩ ∧ gq < wr.heap.size ∧ w0.heap.size ≤ gq ∧ RpsAt wr gq l.length (fun x => l[x]?.getD ⟨0, false⟩) := by
  by_cases hz : l.length = 0
  · exact ⟨0, fun h => by omega⟩
  · obtain ⟨g, cap', hv, hge, hgl⟩ := h.held.form (by omega)
    simp only [Value.slice.injEq] at hv
    obtain ⟨rfl, -, rfl⟩ := hv
    exact ⟨g, fun _ => ⟨rfl, hgl, hge, RpsAt.of_owns h.held⟩⟩
theorem VQ.setR (h : VQ wr vq k) (hM : VM w0 wr N C rb pb eb cb lb fb cellv lostv fl dv l) {j : Nat} {v : Value} : VQ (wr.setCell ⟨rb, j, none⟩ v) vq k :=
  h.of_block (heap_setCell_other _ _ _ _ (h.ne_r hM))
end

section
variable {w W W1 : World} {pb rb vb C vcap : Nat}
theorem vs_later (hpb : pb < w.heap.size) (hrb : rb < w.heap.size) (hb1 : Below w.heap.size W W1) (hS : W.cell? ⟨pb, 5, none⟩ = some (.slice (some ⟨vb, 0, none⟩) (C + 1) vcap) ∧ W.cell? ⟨rb, 1, none⟩ = some (.int .i64 1) ∧ Below w.heap.size w W) :
    W1.cell? ⟨pb, 5, none⟩ = some (.slice (some ⟨vb, 0, none⟩) (C + 1) vcap) ∧ W1.cell? ⟨rb, 1, none⟩ = some (.int .i64 1) ∧ Below w.heap.size w W1 :=
  ⟨(hb1.cell (p := ⟨pb, 5, none⟩) hpb).trans hS.1, (hb1.cell (p := ⟨rb, 1, none⟩) hrb).trans hS.2.1, hS.2.2.trans hb1⟩
theorem vs_call (hpb : pb < w.heap.size) (hrb : rb < w.heap.size) (hb1 : Below W.heap.size W W1) (hS : W.cell? ⟨pb, 5, none⟩ = some (.slice (some ⟨vb, 0, none⟩) (C + 1) vcap) ∧ W.cell? ⟨rb, 1, none⟩ = some (.int .i64 1) ∧ Below w.heap.size w W) :
    W1.cell? ⟨pb, 5, none⟩ = some (.slice (some ⟨vb, 0, none⟩) (C + 1) vcap) ∧ W1.cell? ⟨rb, 1, none⟩ = some (.int .i64 1) ∧ Below w.heap.size w W1 := vs_later hpb hrb (hb1.mono hS.2.2.size) hS
theorem vs_start (hpb : pb < w.heap.size) (hrb : rb < w.heap.size) (h5 : w.cell? ⟨pb, 5, none⟩ = some (.slice (some ⟨vb, 0, none⟩) (C + 1) vcap)) (h1 : w.cell? ⟨rb, 1, none⟩ = some (.int .i64 1)) :
    w.drew.cell? ⟨pb, 5, none⟩ = some (.slice (some ⟨vb, 0, none⟩) (C + 1) vcap) ∧ w.drew.cell? ⟨rb, 1, none⟩ = some (.int .i64 1) ∧ Below w.heap.size w w.drew := vs_later hpb hrb ((Below.refl _ w).drew) ⟨h5, h1, Below.refl _ _⟩
end

set_option maxRecDepth 20000 in
set_option maxHeartbeats 8000000 in
theorem vote_any (N C rb pb eb cb lb fb nb ncap vb vcap ib bb kb : Nat) (bl : Nat → Nat) (inn : Nat → Bool) (ctr : Nat → Rp) (bal : Nat → Nat → Rp) (nm : Nat → ByteArray) (pre : ByteArray) (start : Nat → Int) (w : World) (hN : N ≤ 8) (hC : 1 ≤ C) (hC4 : C ≤ 4) (hvc : C + 1 ≤ vcap)
    (hI : VIm w [rb, eb, lb, fb] N C pb nb ncap vb vcap cb ib lb bb kb bl inn ctr bal nm) (hV : VM w w N C rb pb eb cb lb fb start (fun _ => false) [pre] (.slice none 0 0) []) :
    Calls Yba.prog 6 #[.pointer (some ⟨rb, 0, none⟩), .slice (some ⟨bb, 0, none⟩) N N, .slice (some ⟨kb, 0, none⟩) N N, .slice (some ⟨fb, 0, none⟩) 1 8] w fun e w' => ∃ w3 dv l, e = .returned (.slice (some ⟨fb, 0, none⟩) (failA inn N ctr bal pre nm C).length 8) ∧ Below w.heap.size w w3 ∧ VM w3 w' N C rb pb eb cb lb fb (cellA inn N ctr bal start C) (lostA inn N ctr bal C) (failA inn N ctr bal pre nm C) dv l := by
  have r0 := hV.r0
  have r1 := hV.r1
  have hrb := hV.lts.1
  have hpb := (hI.lt pb (by simp)).1
  have hvb := (hI.lt vb (by simp)).1
  have p5 := hI.p5
  have HW := hide (And.intro hI hV)
  clear hI hV
  go_enter Yba.func6, Yba.ntmps6
  go_upto_region 3 with (go_at_call 5; refine (reading_any _ _).mono ?_; rintro e w' ⟨rfl, rfl⟩)
  obtain ⟨w2, hw2⟩ : ∃ w2, (w.alloc (.cells #[.int .i64 1, .bool true] 49)).alloc (.cells #[.int .i64 1, .bool true] 49) = w2 := ⟨_, rfl⟩
  have hb2 : Below w.heap.size w w2 := by rw [← hw2]; exact ((Below.refl _ w).alloc (Nat.le_refl _) _).alloc (by simp) _
  have hq2 : RpBlk w2 (w.heap.size + 1) ⟨1, true⟩ := by
    rw [← hw2]
    have := heap_alloc_new (w.alloc (.cells #[.int .i64 1, .bool true] 49)) (.cells #[.int .i64 1, .bool true] 49)
    simpa [RpBlk] using this
  rw [hw2]
  clear hw2
  have p5' := (hb2.cell (p := ⟨pb, 5, none⟩) hpb).trans p5
  have r1' := (hb2.cell (p := ⟨rb, 1, none⟩) hrb).trans r1
  have hpb2 : pb < w2.heap.size := Nat.lt_of_lt_of_le hpb hb2.size
  have hrb2 : rb < w2.heap.size := Nat.lt_of_lt_of_le hrb hb2.size
  have K12 : Hid (∀ W, Below w2.heap.size w2 W → Calls Yba.prog 12 #[.slice (some ⟨vb, 0, none⟩) (C + 1) vcap, .int .i64 1] W fun e w' => e = .returned (.slice (some ⟨vb, 0, none⟩) C vcap) ∧ Below W.heap.size W w') := hide fun W hW =>
    inFrame_any vb C vcap W ((HW.out.1.slots.below hb2 hvb).below hW (Nat.lt_of_lt_of_le hvb hb2.size)) hC hC4 hvc (Nat.lt_of_lt_of_le (Nat.lt_of_lt_of_le hvb hb2.size) hW.size)
  have HQ := hide (And.intro hb2 hq2)
  clear hb2 hq2 p5 r1 r0
  go_cut [37, 38, 39] (fun x y z wx => x = .slice (some ⟨vb, 0, none⟩) C vcap ∧ y = .int .i64 C ∧ z = .int .i64 0 ∧ Below w2.heap.size w2 wx)
  case first =>
    go_region_held3 (fun W => W.cell? ⟨pb, 5, none⟩ = some (.slice (some ⟨vb, 0, none⟩) (C + 1) vcap) ∧ W.cell? ⟨rb, 1, none⟩ = some (.int .i64 1) ∧ Below w2.heap.size w2 W)
      (first | exact vs_start hpb2 hrb2 p5' r1' | exact vs_call hpb2 hrb2 (by assumption) (by assumption))
      (first | (go_at_call 12; refine (K12.out _ ?_).mono ?_; (exact (Below.refl _ _).drew); rintro e w4 ⟨rfl, hb4⟩))
    go_wp2
    go_meet
    case rel => exact ⟨rfl, rfl, rfl, ⟨hb4.os, hb4.tape, hb4.output, hb4.size, hb4.block⟩⟩
  case rest =>
    obtain ⟨rfl, rfl, rfl, hb3⟩ := hcut
    obtain ⟨w3, hw3⟩ : ∃ w3, w3 = wc := ⟨_, rfl⟩
    subst hw3
    have hbw : Below w.heap.size w w3 := HQ.out.1.trans (hb3.mono HQ.out.1.size)
    have hq3 : RpBlk w3 (w.heap.size + 1) ⟨1, true⟩ := HQ.out.2.of_block (hb3.block _ HQ.out.2.lt)
    have hV3 := (HW.out.2.later hbw).rebase
    have hI3 := HW.out.1.keep (GB.of_below hbw)
    have hqS : w.heap.size + 1 ∉ [rb, eb, lb, fb] := by
      obtain ⟨l1, l2, l3, l4⟩ := HW.out.2.lts
      simp; omega
    have H3 := hide (And.intro hbw (And.intro hq3 (And.intro hI3 hV3)))
    clear HW HQ K12 hb3 hbw hq3 hV3 hI3 p5' r1' hpb2 hrb2 hpb hvb hrb
    generalize w.heap.size + 1 = fq at H3 hqS ⊢
    go_wp2
    go_loopg [3, 39] C (fun gk x y wr => ∃ (k : Nat) (dv : Value) (l : List Rp), x = .slice (some ⟨fb, 0, none⟩) (failA inn N ctr bal pre nm k).length 8 ∧ y = .int .i64 k ∧ gk + k = C ∧ VM w3 wr N C rb pb eb cb lb fb (cellA inn N ctr bal start k) (lostA inn N ctr bal k) (failA inn N ctr bal pre nm k) dv l)
    case atStart => exact ⟨0, _, _, rfl, rfl, by omega, H3.out.2.2.2.congrC (fun c => by simp [cellA])⟩
    case round =>
      obtain ⟨k, dv, l, rfl, rfl, hgk, hM⟩ := hrel
      have hfl := failA_length inn N ctr bal pre nm k
      by_cases hk : k < C
      · have hIr := H3.out.2.2.1.keep hM.gb
        obtain ⟨s0, s1⟩ := hIr.slots k (by omega)
        have hqk : (k : Int) < (C : Int) := by omega
        have HM := hide hM
        clear hM hIr
        go_upto_region 5 with fail
        go_cut [11, 12] (fun x y wx => ∃ vq, x = .int .i64 k ∧ y = .pointer (some ⟨vq, 0, none⟩) ∧ VM w3 wx N C rb pb eb cb lb fb (cellA inn N ctr bal start k) (lostA inn N ctr bal k) (failA inn N ctr bal pre nm k) dv l ∧ VQ wx vq k)
        case first =>
          go_wp2
          go_meet
          case rel => exact ⟨_, rfl, rfl, HM.out.later ((Below.refl _ _).alloc (Nat.le_refl _) _), ⟨_, heap_alloc_new _ _⟩⟩
        case rest =>
          obtain ⟨vq, rfl, rfl, hM, hQ⟩ := hcut
          clear HM s0 s1
          obtain ⟨da, dcap, rfl, hdl⟩ := owns_slice hM.held
          have r4 := hM.r4
          have rf4 := hM.rf 4
          have hdc : (0 : Int) ≤ (dcap : Int) := by omega
          have HM := hide (And.intro hM hQ)
          clear hM hQ
          go_upto_region 6 with fail
          go_cut [] (fun wx => VM w3 wx N C rb pb eb cb lb fb (cellA inn N ctr bal start k) (lostA inn N ctr bal k) (failA inn N ctr bal pre nm k) (.slice da 0 dcap) [] ∧ VQ wx vq k)
          case first =>
            go_wp2
            go_meet
            case rel => exact ⟨HM.out.1.setR (owns_reset HM.out.1.held), HM.out.2.setR HM.out.1⟩
          case rest =>
            obtain ⟨hM, hQ⟩ := hcut
            have HM2 := hide (And.intro hM hQ)
            clear hM hQ HM r4 rf4
            go_wp2
            go_loopg [54] N (fun gk y wx => ∃ (n : Nat) (dv' : Value), y = .int .i64 n ∧ gk + n = N ∧ VM w3 wx N C rb pb eb cb lb fb (cellA inn N ctr bal start k) (lostA inn N ctr bal k) (failA inn N ctr bal pre nm k) dv' (rl inn (repI ctr bal k) n) ∧ VQ wx vq k)
            case atStart => exact ⟨0, _, rfl, by omega, HM2.out⟩
            case round =>
              clear HM2
              obtain ⟨n, dv, rfl, hgk2, hM, hQ⟩ := hrel
              by_cases hn : n < N
              · have hIr := H3.out.2.2.1.keep hM.gb
                have b1 := hIr.bal1 n hn
                have i1 := hIr.inn.cell hn
                have r5 := hM.r5
                have c1 := hIr.c1
                have hqn : (n : Int) < (N : Int) := by omega
                cases hin : inn n with
                | false =>
                  rw [hin] at i1
                  have HM := hide (And.intro hM (And.intro hQ hin))
                  clear hM hQ hIr hin
                  go_wp2
                  go_roundg (N - (n + 1))
                  case measure => omega
                  case rel =>
                    have e : rl inn (repI ctr bal k) (n + 1) = rl inn (repI ctr bal k) n := by simp [rl, HM.out.2.2]
                    exact ⟨n + 1, dv, by go_num, by omega, by rw [e]; exact HM.out.1, HM.out.2.1⟩
                | true =>
                  rw [hin] at i1
                  obtain ⟨k0, k1⟩ := hIr.ctr n hn
                  have hqb : RpBlk wr fq ⟨1, true⟩ := H3.out.2.1.of_block (hM.gb.block fq H3.out.2.1.lt hqS)
                  have q0 := hqb.c0
                  have q1 := hqb.c1
                  have hfl2 := hqb.lt
                  have hkl := (hIr.lt kb (by simp)).1
                  obtain ⟨bv, hbv⟩ : ∃ bv, decide (ctr n = ⟨1, true⟩) = bv := ⟨_, rfl⟩
                  have hpq : dv.ownBlock ≠ some wr.heap.size := fun e => by have := (hM.held.lt _ e).2; omega
                  have hvp : vq ≠ wr.heap.size := Nat.ne_of_lt hQ.lt
                  have hpg : w3.heap.size ≤ wr.heap.size := hM.gb.size
                  have hrp : repI ctr bal k n = if bv = true then bal n k else ⟨0, false⟩ := by unfold repI; rw [← hbv]; simp
                  have HM := hide (And.intro (hM.later ((Below.refl _ wr).alloc (Nat.le_refl _) (.cells #[.int .i64 0, .bool false] 49))) (And.intro (hQ.of_block (w1 := wr.alloc (.cells #[.int .i64 0, .bool false] 49)) (Below.heap_alloc _ _ _ hQ.lt)) (And.intro hin (And.intro hbv hrp))))
                  clear hM hQ hIr hin hbv hqb hrp
                  obtain ⟨cn, hcn⟩ : ∃ cn, ctr n = cn := ⟨_, rfl⟩
                  rw [hcn] at k0 k1
                  have HCN := hide hcn
                  clear hcn
                  go_upto_region 12 with fail
                  go_cut [75] (fun x wx => x = .bool bv ∧ VM w3 wx N C rb pb eb cb lb fb (cellA inn N ctr bal start k) (lostA inn N ctr bal k) (failA inn N ctr bal pre nm k) dv (rl inn (repI ctr bal k) n) ∧ VQ wx vq k ∧ RpBlk wx wr.heap.size ⟨0, false⟩)
                  case first =>
                    have hnew : RpBlk (wr.alloc (.cells #[.int .i64 0, .bool false] 49)) wr.heap.size ⟨0, false⟩ := heap_alloc_new _ _
                    have HNW := hide hnew
                    clear hnew
                    rcases rp_cases cn ⟨1, true⟩ with he | he
                    · have hzb : bv = true := by rw [← HM.out.2.2.2.1, HCN.out, he]; rfl
                      subst hzb
                      subst he
                      go_quiet (fail)
                      go_wp2
                      go_meet
                      case rel => exact ⟨rfl, HM.out.1.later ⟨rfl, rfl, rfl, Nat.le_refl _, fun _ _ => rfl⟩, HM.out.2.1, HNW.out⟩
                    · have hzb : bv = false := by rw [← HM.out.2.2.2.1, HCN.out]; exact decide_eq_false (rp_ne he)
                      subst hzb
                      simp only at he
                      rcases he with he | ⟨he, he'⟩
                      · go_quiet (fail)
                        go_wp2
                        go_meet
                        case rel => exact ⟨rfl, HM.out.1.later ⟨rfl, rfl, rfl, Nat.le_refl _, fun _ _ => rfl⟩, HM.out.2.1, HNW.out⟩
                      · go_quiet (fail)
                        go_wp2
                        go_meet
                        case rel => exact ⟨rfl, HM.out.1.later ⟨rfl, rfl, rfl, Nat.le_refl _, fun _ _ => rfl⟩, HM.out.2.1, HNW.out⟩
                  case rest =>
                    obtain ⟨rfl, hM, hQ, hP⟩ := hcut
                    generalize wr.heap.size = pq at hP hpq hvp hpg ⊢
                    have HRR := hide HM.out.2.2
                    clear HM k0 k1 q0 q1 hfl2 hkl HCN b1 i1 r5 c1
                    obtain ⟨y0, y1⟩ := (H3.out.2.2.1.keep hM.gb).bal2 n hn k hk
                    have pf := hP.free
                    have p0 := hP.c0
                    have p1 := hP.c1
                    have HM := hide (And.intro hM (And.intro hQ hP))
                    clear hM hQ hP
                    go_upto_if 75 with fail
                    go_cut [] (fun wx => VM w3 wx N C rb pb eb cb lb fb (cellA inn N ctr bal start k) (lostA inn N ctr bal k) (failA inn N ctr bal pre nm k) dv (rl inn (repI ctr bal k) n) ∧ VQ wx vq k ∧ RpBlk wx pq (repI ctr bal k n))
                    case first =>
                      cases bv with
                      | true =>
                        go_wp2
                        go_meet
                        case rel =>
                          have hr : repI ctr bal k n = bal n k := by simpa using HRR.out.2.2
                          rw [hr]
                          exact ⟨(HM.out.1.setN hpg hpq _ _).setN hpg hpq _ _, (HM.out.2.1.of_block (heap_setCell_other _ _ _ _ hvp)).of_block (heap_setCell_other _ _ _ _ hvp), HM.out.2.2.set _⟩
                      | false =>
                        go_wp2
                        go_meet
                        case rel =>
                          have hr : repI ctr bal k n = ⟨0, false⟩ := by simpa using HRR.out.2.2
                          rw [hr]
                          exact HM.out
                    case rest =>
                      obtain ⟨hM, hQ, hP⟩ := hcut
                      clear HM y0 y1 pf p0 p1
                      obtain ⟨R, hR⟩ : ∃ R, repI ctr bal k n = R := ⟨_, rfl⟩
                      rw [hR] at hP
                      have r4 := hM.r4
                      have p0 := hP.c0
                      have p1 := hP.c1
                      have hrl := hM.rlt
                      have hplt := hP.lt
                      have hneR : some rb ≠ dv.ownBlock := fun e => hM.own hM.lts.1 e.symm
                      obtain ⟨i0, hi, hz0, hz1, hz2⟩ := info_parts Yba.info49
                      have hlen := rl_length inn (repI ctr bal k) n
                      have hidx := idx_le inn n
                      have hsz := hM.gb.size
                      obtain ⟨gd, cap, w1, hrun, hown, hgrow, hat, hglt⟩ := run_append_lies (P := Yba.prog) (wc.alloc (.cells #[.int .i64 R.v, .bool R.p] 49)).drew 38 38 w3.heap.size 49 i0 (.agg #[.int .i64 0, .bool false]) 2 16 Yba.underlying38 hi hz0 hz1 hz2 rfl (by decide) dv (rl inn (repI ctr bal k) n).length _ (hM.held.alloc _) ⟨wc.heap.size, 0, none⟩ 1 1 [.int .i64 R.v, .bool R.p] rfl (World.news_of_block (heap_alloc_new _ _)) (by intro u hu; simp at hu; rcases hu with rfl | rfl <;> rfl) (by decide) (by unfold maxLen; omega) (by omega) (by simp; omega) (wc.heap.size + 1) (by simp)
                      have s1 := (hgrow.cell_far ⟨rb, 4, none⟩ (by simp; omega) hneR).trans ((World.cell?_alloc_past _ _ _ hrl).trans r4)
                      have s2 := (hgrow.frozen_far ⟨rb, 4, none⟩ (by simp; omega) hneR).trans ((World.frozen?_alloc_past _ _ _ hrl).trans (hM.rf 4))
                      have HG := hide (And.intro hgrow (And.intro hown (And.intro hat (And.intro hR HRR.out))))
                      have HM := hide (And.intro hM hQ)
                      clear hgrow hown hat hglt hi hz0 hz1 hz2 hM hQ hP hR HRR hlen
                      rw [app_g] at hrun
                      go_upto_region 14 with fail
                      go_big_region
                      go_wp2
                      go_roundg (N - (n + 1))
                      case measure => omega
                      case rel =>
                        have e : rl inn (repI ctr bal k) (n + 1) = rl inn (repI ctr bal k) n ++ [R] := by rw [← HG.out.2.2.2.1]; simp [rl, HG.out.2.2.2.2.1]
                        have hbA : (wc.alloc (.cells #[.int .i64 R.v, .bool R.p] 49)).grownBy w1 dv.ownBlock := ⟨HG.out.1.os, HG.out.1.tape, HG.out.1.output, HG.out.1.size, HG.out.1.block⟩
                        refine ⟨n + 1, _, by go_num, by omega, by rw [e]; exact HM.out.1.append _ R hbA HG.out.2.1, ?_⟩
                        refine HM.out.2.of_block ?_
                        rw [heap_setCell_other _ _ _ _ (HM.out.2.ne_r HM.out.1), hbA.block _ (by have := HM.out.2.lt; simp; omega) (fun e => HM.out.2.ne_own HM.out.1 e.symm)]
                        exact Below.heap_alloc _ _ _ HM.out.2.lt
              · obtain rfl : n = N := by omega
                obtain ⟨ao, dcap', rfl, hdl'⟩ := owns_slice hM.held
                have hlen := rl_length inn (repI ctr bal k) n
                have hidx := idx_le inn n
                obtain ⟨gq, hA⟩ := hM.reports
                have r4 := hM.r4
                rw [hlen] at r4
                have hW : (maj (rf inn (repI ctr bal k) n) (idx inn n)).1 = wonI inn n ctr bal k := rfl
                have K13 := hide (majority_any ao gq (idx inn n) dcap' (rf inn (repI ctr bal k) n) wr (by rw [hlen] at hA; exact fun h => ⟨(hA h).1, (hA h).2.1, (hA h).2.2.2⟩) (by omega))
                obtain ⟨Wn, hWn⟩ : ∃ Wn, wonI inn n ctr bal k = Wn := ⟨_, rfl⟩
                rw [hW, hWn] at K13
                have HWn := hide hWn
                clear hWn
                have HM := hide (And.intro hM hQ)
                clear hM hQ hA hW hdl'
                go_upto_region 16 with fail
                go_cut [16, 17] (fun x y wx => ∃ wq, x = .pointer (some ⟨wq, 0, none⟩) ∧ VM w3 wx n C rb pb eb cb lb fb (cellA inn n ctr bal start k) (lostA inn n ctr bal k) (failA inn n ctr bal pre nm k) (.slice ao (rl inn (repI ctr bal k) n).length dcap') (rl inn (repI ctr bal k) n) ∧ VQ wx vq k ∧ RpBlk wx wq Wn ∧ Below wr.heap.size wr wx)
                case first =>
                  go_wp2_with (go_at_call 13; refine K13.out.mono ?_; rintro e w4 ⟨rfl, hb4⟩; have HB4 := hide hb4; clear hb4)
                  go_meet
                  case rel =>
                    have hb5 := HB4.out.alloc HB4.out.size (.cells #[.int .i64 Wn.v, .bool Wn.p] 49)
                    exact ⟨_, rfl, HM.out.1.later hb5, HM.out.2.of_block (hb5.block _ HM.out.2.lt), heap_alloc_new _ _, hb5⟩
                case rest =>
                  obtain ⟨wq, rfl, hM, hQ, hWB, hbel⟩ := hcut
                  clear r4 K13
                  have q0 := hWB.c0
                  have q1 := hWB.c1
                  have K14 := fun w' => hide (value_any Wn w')
                  have HM3 := hide (And.intro hM (And.intro hQ hWB))
                  clear hM hQ hWB hbel HM
                  go_upto_region 17 with fail
                  go_cut [18, 19] (fun x y wx => x = .int .i64 Wn.v ∧ y = .bool Wn.p ∧ VM w3 wx n C rb pb eb cb lb fb (cellA inn n ctr bal start k) (lostA inn n ctr bal k) (failA inn n ctr bal pre nm k) (.slice ao (rl inn (repI ctr bal k) n).length dcap') (rl inn (repI ctr bal k) n) ∧ VQ wx vq k ∧ RpBlk wx wq Wn)
                  case first =>
                    go_wp2_with (go_at_call 14; refine (K14 _).out.mono ?_; rintro e w5 ⟨rfl, hb5⟩; have HB5 := hide hb5; clear hb5)
                    go_meet
                    case rel => exact ⟨rfl, rfl, HM3.out.1.later HB5.out, HM3.out.2.1.of_block (HB5.out.block _ HM3.out.2.1.lt), HM3.out.2.2.of_block (HB5.out.block _ HM3.out.2.2.lt)⟩
                  case rest =>
                    obtain ⟨rfl, rfl, hM, hQ, hWB⟩ := hcut
                    clear q0 q1 K14 HM3
                    cases hp : Wn.p with
                    | true =>
                      have r2 := hM.r2
                      have v1 := hQ.c1
                      have e0 := hM.cells.cell (i := k) (by omega)
                      have ef := hM.cells.frozen k
                      have hkC : (k : Int) < (C : Int) + 1 := by omega
                      have hev := hQ.ne_row hM.cells (by decide)
                      have hew := hWB.ne_row hM.cells (by decide)
                      have HM3 := hide (And.intro hM (And.intro hQ (And.intro hWB hp)))
                      clear hM hQ hWB hp
                      go_upto_region 20 with fail
                      go_cut [] (fun wx => VM w3 wx n C rb pb eb cb lb fb (fun x => if x = k then Wn.v else cellA inn n ctr bal start k x) (lostA inn n ctr bal k) (failA inn n ctr bal pre nm k) (.slice ao (rl inn (repI ctr bal k) n).length dcap') (rl inn (repI ctr bal k) n) ∧ VQ wx vq k ∧ RpBlk wx wq Wn)
                      case first =>
                        go_big_region
                        go_wp2
                        go_meet
                        case rel => exact ⟨(HM3.out.1.setC k Wn.v).later (Below.refl _ _).drew, HM3.out.2.1.of_block (heap_setCell_other _ _ _ _ hev), HM3.out.2.2.1.of_block (heap_setCell_other _ _ _ _ hew)⟩
                      case rest =>
                        obtain ⟨hM, hQ, hWB⟩ := hcut
                        clear r2 v1 e0 ef hev hew
                        have hIr := H3.out.2.2.1.keep hM.gb
                        have r5 := hM.r5
                        have r4 := hM.r4
                        have q0 := hWB.c0
                        have q1 := hWB.c1
                        obtain ⟨gq2, hA2⟩ := hM.reports
                        obtain ⟨n1, n2, n3, n4, n5, n6⟩ := hM.ne
                        have hcl := hIr.lt cb (by simp)
                        have hil := hIr.lt ib (by simp)
                        have hcn : cb ≠ lb := fun e => hcl.2 (by rw [e]; simp)
                        have hin' : ib ≠ lb := fun e => hil.2 (by rw [e]; simp)
                        have hwl := hWB.ne_row hM.lost (by decide)
                        have hrl := hM.rlt
                        have hwlt := hWB.lt
                        rw [hlen] at r4
                        have K15 := hide (count_any cb ib lb gq2 n (idx inn n) dcap' inn (lostA inn n ctr bal k) (repI ctr bal k) (rf inn (repI ctr bal k) n) Wn ao wc.drew hN hIr.c0 hIr.c1 hIr.c6 hIr.inn hM.lost hcl.1 hcn hin' (fun m hm hi => ⟨idx_lt hi hm, rf_at hi hm⟩)
                          (by rw [hlen] at hA2; exact fun h => ⟨(hA2 h).1, (hA2 h).2.1, by have h1 := (hA2 h).2.2.1; have h2 := hM.lts.2.2.1; omega, (hA2 h).2.2.2⟩))
                        have HM4 := hide (And.intro hM HM3.out.2.2.2)
                        clear hM hQ hWB hIr hA2 HM3 n1 n3 n4 n5 n6 hcl hil hcn hin'
                        go_upto_region 21 with fail
                        go_region_held3 (fun W => W.cell? ⟨rb, 5, none⟩ = some (.pointer (some ⟨cb, 0, none⟩)) ∧ W.cell? ⟨rb, 4, none⟩ = some (.slice ao (idx inn n) dcap') ∧ W.cell? ⟨wq, 0, none⟩ = some (.int .i64 Wn.v) ∧ W.cell? ⟨wq, 1, none⟩ = some (.bool Wn.p))
                          (first | exact ⟨by assumption, by assumption, by assumption, by assumption⟩ | go_keep)
                          (first | (go_at_call 15; refine K15.out.mono ?_; rintro e w6 ⟨rfl, hg6, hl6⟩; have m1 := (hg6.cell_far ⟨rb, 5, none⟩ hrl (by simp; exact n2)).trans r5; have m2 := (hg6.cell_far ⟨rb, 4, none⟩ hrl (by simp; exact n2)).trans r4; have m3 := (hg6.cell_far ⟨wq, 0, none⟩ hwlt (by simp; exact hwl)).trans q0; have m4 := (hg6.cell_far ⟨wq, 1, none⟩ hwlt (by simp; exact hwl)).trans q1; have HG6 := hide (And.intro hg6 hl6); clear hg6 hl6))
                        go_wp2
                        go_roundg (C - (k + 1))
                        case measure => omega
                        case rel =>
                          have hnp : (wonI inn n ctr bal k).p = true := by rw [HWn.out]; exact HM4.out.2
                          have ef : failA inn n ctr bal pre nm (k + 1) = failA inn n ctr bal pre nm k := by simp [failA, hnp]
                          have el : lostA inn n ctr bal (k + 1) = lostF inn (repI ctr bal k) Wn (lostA inn n ctr bal k) n := by rw [← HWn.out]; simp [lostA, hnp]
                          have hg : wc.grownBy w6 (some lb) := ⟨HG6.out.1.os, HG6.out.1.tape, HG6.out.1.output, HG6.out.1.size, HG6.out.1.block⟩
                          have hV := (HM4.out.1.setL (lostv' := lostF inn (repI ctr bal k) Wn (lostA inn n ctr bal k) n) hg HG6.out.2).congrC (cellv' := cellA inn n ctr bal start (k + 1)) (fun c => by rw [← HWn.out]; exact cellA_hit hnp c)
                          exact ⟨k + 1, _, _, by rw [ef], by go_num, by omega, by rw [ef, el]; exact hV⟩
                    | false =>
                      obtain ⟨i9, hi9, -, hz9, -⟩ := info_parts Yba.info9
                      have hIr := H3.out.2.2.1.keep hM.gb
                      have p1 := hIr.p1
                      have nk := hIr.names k (by omega)
                      have v1 := hQ.c1
                      have hkC : (k : Int) < (C : Int) + 1 := by omega
                      have hrun0 := run_append_room_cells (P := Yba.prog) (wc.alloc (.cells #[.string (nm k)] 9)).drew 25 25 9 i9 Yba.underlying25 hi9 fb 0 (failA inn n ctr bal pre nm k).length 8 ⟨wc.heap.size, 0, none⟩ 1 1 [.string (nm k)] (by rw [hz9]; rfl) (World.news_of_block (heap_alloc_new _ _)) (by intro u hu; simp at hu; subst hu; rfl) (by omega)
                        (by intro j hj; rw [hz9]; simp at hj; exact (hM.later ((Below.refl _ wc).alloc (Nat.le_refl _) _)).fail.some (by omega))
                        (by intro j hj; exact (hM.later ((Below.refl _ wc).alloc (Nat.le_refl _) (.cells #[.string (nm k)] 9))).fail.free _)
                      have hrun : (appG #[25, 25] 25 #[.slice (some ⟨fb, 0, none⟩) (failA inn n ctr bal pre nm k).length 8, .slice (some ⟨wc.heap.size, 0, none⟩) 1 1]).run Yba.prog (wc.alloc (.cells #[.string (nm k)] 9)).drew = .ok (.slice (some ⟨fb, 0, none⟩) ((failA inn n ctr bal pre nm k).length + 1) 8) ((wc.alloc (.cells #[.string (nm k)] 9)).drew.setCell ⟨fb, (failA inn n ctr bal pre nm k).length, none⟩ (.string (nm k))) := by
                        rw [hz9, Nat.zero_add, Nat.mul_one] at hrun0
                        exact hrun0
                      have HM4 := hide (And.intro hM hp)
                      clear hrun0 hM hQ hWB hIr hi9 hz9
                      clear hp
                      go_upto_region 19 with fail
                      go_big_region
                      go_wp2
                      go_roundg (C - (k + 1))
                      case measure => omega
                      case rel =>
                        have hnp : (wonI inn n ctr bal k).p = false := by rw [HWn.out]; exact HM4.out.2
                        have ef : failA inn n ctr bal pre nm (k + 1) = failA inn n ctr bal pre nm k ++ [nm k] := by simp [failA, hnp]
                        have el : lostA inn n ctr bal (k + 1) = lostA inn n ctr bal k := by simp [lostA, hnp]
                        have hV := (((HM4.out.1.later ((Below.refl _ wc).alloc (Nat.le_refl _) (.cells #[.string (nm k)] 9))).addF (by omega) (nm k)).later (Below.refl _ _).drew).congrC (cellv' := cellA inn n ctr bal start (k + 1)) (fun c => cellA_skip hnp c)
                        exact ⟨k + 1, _, _, by rw [ef]; simp, by go_num, by omega, by rw [ef, el]; exact hV⟩
      · obtain rfl : k = C := by omega
        have HM := hide hM
        clear hM
        go_wp2
        go_ret
        exact ⟨w3, dv, l, rfl, H3.out.1, HM.out⟩
end Go.Proofs.Ybulkbbgw.Vo
