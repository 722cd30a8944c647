/-
  (*mergedLists).next (10) BY ITS CONTRACT.
-/
import Derived.Test.YbulkbbhyMgNS
namespace Go.Proofs.Ybulkbbhy.Mg
open Go.RowKit

attribute [local go_sem ↓] app_g
attribute [local go_sem] field75_0 field75_3
attribute [local go_sem] alloc_drewN setCell_drewN

/-- The sum of the counts of t items from g on, as uint32 adds. -/
def sumC (cnt : Nat → Nat → Nat) (it : Nat → Pl) (g : Nat) : Nat → Int
  | 0 => 0
  | t + 1 => IntKind.u32.wrap (sumC cnt it g t + cnt (it (g + t)).s (it (g + t)).i)

/-- THE STATE between the calls of next. -/
structure MSt (B : Nat) (wr : World) (MB SB S : Nat) (n : Nat → Nat) (key : Nat → Nat → Nat) (pos : Nat → Nat) (ao : Option Addr) (hn hcap g : Nat) (h : Nat → Pl) (dv : Value) (dn : Nat) (d : Nat → Pl) (c : Int) : Prop where
  m : MAt wr MB (.slice (some ⟨SB, 0, none⟩) S S) (.slice ao hn hcap) dv (.int .u32 c)
  hB : B ≤ MB
  ao : 0 < hn → ao = some ⟨g, 0, none⟩ ∧ B ≤ g ∧ PlBlk wr g hn h ∧ dv.ownBlock ≠ some g
  held : wr.ownsRow B 54 3 dv dn (plCells d dn)
  heads : Heads n key pos S h hn
  ok : Ok h hn 0
  le : hn ≤ hcap

theorem owns_reset {w : World} {base n : Nat} {a : Option Addr} {m cap : Nat} {xs : List Value} (ho : w.ownsRow base 54 3 (.slice a m cap) n xs) : w.ownsRow base 54 3 (.slice a 0 cap) 0 [] := by
  obtain ⟨hl, ⟨hv, h0⟩ | ⟨g', cap', cur, hv, hb, hh, h1, h2, h3, h4⟩⟩ := ho
  · simp at hv
    obtain ⟨rfl, rfl, rfl⟩ := hv
    exact World.ownsRow_nil _ _ _ _
  · simp at hv
    obtain ⟨rfl, rfl, rfl⟩ := hv
    exact ⟨by simp, .inr ⟨g', cap, cur, rfl, hb, hh, by omega, h2, h3, by simp⟩⟩

theorem owns_slice {w : World} {base n : Nat} {v : Value} {xs : List Value} (ho : w.ownsRow base 54 3 v n xs) : ∃ a cap, v = .slice a n cap ∧ n ≤ cap := by
  obtain ⟨hl, ⟨hv, h0⟩ | ⟨g', cap', cur, hv, hb, hh, h1, h2, h3, h4⟩⟩ := ho
  · exact ⟨none, 0, by rw [hv, h0], by omega⟩
  · exact ⟨_, cap', hv, h1⟩

set_option maxRecDepth 20000 in
set_option maxHeartbeats 1000000 in
/-- Nothing left. -/
theorem next_none (B MB : Nat) (a : Value) (ao : Option Addr) (hcap : Nat) (dv : Value) (dn : Nat) (xs : List Value) (c : Int) (w : World) (hm : MAt w MB a (.slice ao 0 hcap) dv (.int .u32 c)) (hB : B ≤ MB) (ho : w.ownsRow B 54 3 dv dn xs) :
    Calls Yba.prog 10 #[.pointer (some ⟨MB, 0, none⟩)] w fun e w' => e = .returned (.tuple #[.int .u64 0, .int .u32 0, .bool false]) ∧ Below B w w' ∧ ∃ a' cap', w'.cell? ⟨MB, 2, none⟩ = some (.slice a' 0 cap') := by
  obtain ⟨da, dcap, rfl, hle⟩ := owns_slice ho
  have m1 := hm.c1
  have m2 := hm.c2
  have m3 := hm.c3
  have f := hm.free
  have hqc : (0 : Int) ≤ (dcap : Int) := by omega
  have HM := hide hm
  clear hm ho
  go_enter Yba.func10, Yba.ntmps10
  go_wp2
  go_ret3
  exact ⟨rfl, ((Below.refl _ _).setCell hB _).setCell hB _, da, dcap, ((HM.out.set2 _).set3 _).c2⟩

/-- next begins: nothing held, nothing counted. -/
theorem MSt.begin {B MB SB S hn hcap g dn : Nat} {w : World} {n pos : Nat → Nat} {key : Nat → Nat → Nat} {h d : Nat → Pl} {da ao : Option Addr} {dcap m : Nat} {c : Int} (hM : MSt B w MB SB S n key pos ao hn hcap g h (.slice da m dcap) dn d c) (h0 : 0 < hn) (d' : Nat → Pl) :
    NS B w ((w.setCell ⟨MB, 2, none⟩ (.slice da 0 dcap)).setCell ⟨MB, 3, none⟩ (.int .u32 0)) MB SB S hn hcap g h (.slice da 0 dcap) 0 d' 0 := by
  obtain ⟨rfl, hg, hP, hne⟩ := hM.ao h0
  have hgM : g ≠ MB := hP.ne hM.m
  have hd : (Value.slice da 0 dcap).ownBlock = (Value.slice da m dcap).ownBlock := by cases da <;> rfl
  refine ⟨((Below.refl _ _).setCell hM.hB _).setCell hM.hB _, (hM.m.set2 _).set3 _, hM.hB, hg, hP.of_block ?_, by rw [hd]; exact hne, ?_⟩
  · rw [heap_setCell_other _ _ _ _ hgM, heap_setCell_other _ _ _ _ hgM]
  · have := owns_ne_M hM.m hM.held
    rw [← hd] at this
    exact ownsRow_setCell_other (ownsRow_setCell_other (owns_reset hM.held) this _) this _

theorem down_empty (b cap : Nat) (w : World) : Calls Yba.prog 15 #[.slice (some ⟨b, 0, none⟩) 0 cap, .int .i64 0] w fun e w' => e = .returned (.tuple #[]) ∧ w = w' := by
  go_enter Yba.func15, Yba.ntmps15
  go_wp2
  go_loopg [1] 0 (fun gk s wr => s = .int .i64 0 ∧ w = wr)
  case atStart => exact ⟨rfl, rfl⟩
  case round =>
    obtain ⟨rfl, rfl⟩ := hrel
    go_wp2
    exact bodyPost_ret (v := .tuple #[]) (by simp [results, Yba.results15, go_sem]) rfl ⟨rfl, rfl⟩

theorem below_drewN (w : World) (m : Nat) : Below w.heap.size w (w.drewN m) := ⟨rfl, rfl, rfl, Nat.le_refl _, fun _ _ => rfl⟩

/-- What holds at the head of next's loop. -/
structure NL (B : Nat) (w wr : World) (MB SB S T gI t : Nat) (n : Nat → Nat) (key cnt : Nat → Nat → Nat) (it : Nat → Pl) (pos : Nat → Nat) (hn hcap g : Nat) (h : Nat → Pl) (dv : Value) : Prop where
  ns : NS B w wr MB SB S hn hcap g h dv t (fun j => it (gI + j)) (sumC cnt it gI t)
  heads : Heads n key pos S h hn
  ok : Ok h hn 0
  rep : Rep S n key it T (gI + t) pos
  same : ∀ x, gI ≤ x → x < gI + t → (it x).k = (it gI).k
  le : hn ≤ hcap

set_option maxRecDepth 20000 in
set_option maxHeartbeats 8000000 in
theorem next_some (B MB SB S T gI hn hcap g dn : Nat) (n DB pos : Nat → Nat) (key cnt : Nat → Nat → Nat) (it h d : Nat → Pl) (dv : Value) (ao : Option Addr) (c : Int) (w : World) (hS : SegsAt w SB S n DB key cnt) (hSB : SB < B) (hDB : ∀ s, s < S → DB s < B) (hN : Nums S n key cnt)
    (hM : MSt B w MB SB S n key pos ao hn hcap g h dv dn d c) (hR : Rep S n key it T gI pos) (hlt : gI < T) (hT : T ≤ 100000) (hS1 : S ≤ 256) :
    Calls Yba.prog 10 #[.pointer (some ⟨MB, 0, none⟩)] w fun e w' => ∃ (t hn' hcap' : Nat) (h' : Nat → Pl) (dv' : Value) (pos' : Nat → Nat), e = .returned (.tuple #[.int .u64 (it gI).k, .int .u32 (sumC cnt it gI t), .bool true]) ∧
      0 < t ∧ (gI + t < T → (it (gI + t)).k ≠ (it gI).k) ∧ NL B w w' MB SB S T gI t n key cnt it pos' hn' hcap' g h' dv' := by
  obtain ⟨da, dcap, rfl, hle⟩ := owns_slice hM.held
  have h0 : 0 < hn := (hR.some hM.heads).1 hlt
  have hNS := hide (hM.begin h0 (fun j => it (gI + j)))
  obtain ⟨hroot, -⟩ := hR.root hM.heads hM.ok hN.up hlt
  obtain ⟨rfl, hg, hP, hne⟩ := hM.ao h0
  have p0 := hP.c0 h0
  rw [hroot] at p0
  have hgM : g ≠ MB := hP.ne hM.m
  have m1 := hM.m.c1
  have m2 := hM.m.c2
  have m3 := hM.m.c3
  have f := hM.m.free
  have hqc : (0 : Int) ≤ (dcap : Int) := by omega
  have hqn : (0 : Int) < (hn : Int) := by omega
  have hqn2 : ((hn : Int) == 0) = false := by simp; omega
  have HF := hide (And.intro hM (And.intro hS (And.intro hN hR)))
  clear hM hS hN hR hP hroot
  go_enter Yba.func10, Yba.ntmps10
  go_wp2
  go_loopg [] (T - gI) (fun gk wr => ∃ (t hn' hcap' : Nat) (h' : Nat → Pl) (dv' : Value) (pos' : Nat → Nat), gk + (gI + t) = T ∧ NL B w wr MB SB S T gI t n key cnt it pos' hn' hcap' g h' dv')
  case atStart => exact ⟨0, hn, hcap, h, .slice da 0 dcap, pos, by omega, hNS.out, HF.out.1.heads, HF.out.1.ok, HF.out.2.2.2, fun x h1 h2 => congrArg (fun y => (it y).k) (by omega), HF.out.1.le⟩
  case round =>
    obtain ⟨t, hn', hcap', h', dv', pos', hgk, hL⟩ := hrel
    clear hNS hne p0 hgM m1 m2 m3 f hqc hqn hqn2 h0 hle
    have m1 := hL.ns.m.c1
    have m2 := hL.ns.m.c2
    have m3 := hL.ns.m.c3
    have m0 := hL.ns.m.c0
    have f := hL.ns.m.free
    by_cases hz : hn' = 0
    · subst hz
      have hend : ¬ gI + t < T := fun hlt' => absurd ((hL.rep.some hL.heads).1 hlt') (by omega)
      have HL := hide hL
      clear hL
      go_wp2
      go_quiet (fail)
      go_wp2
      go_ret3
      exact ⟨t, 0, hcap', h', dv', pos', rfl, by omega, fun h => absurd h hend, HL.out.ns.later (below_drewN _ _), HL.out.heads, HL.out.ok, HL.out.rep, HL.out.same, HL.out.le⟩
    · have h0 : 0 < hn' := by omega
      have hlt' := (hL.rep.some hL.heads).2 h0
      have hqn : (0 : Int) < (hn' : Int) := by omega
      obtain ⟨hroot, hs, hi, hin, hkey⟩ := hL.rep.root hL.heads hL.ok HF.out.2.2.1.up hlt'
      have p0 := hL.ns.blk.c0 h0
      have p1 := hL.ns.blk.c1 h0
      have p2 := hL.ns.blk.c2 h0
      rw [hroot] at p0 p1 p2
      have hgM := hL.ns.gM
      have hsz := hL.ns.blk.lt
      have hMlt := hL.ns.m.lt
      have HL := hide hL
      by_cases hk : (it (gI + t)).k = (it gI).k
      · clear hL
        obtain ⟨⟨K, ps, pi⟩, hP⟩ : ∃ P, it (gI + t) = P := ⟨_, rfl⟩
        rw [hP] at hk p0 p1 p2 hs hi hin hkey hroot
        simp only at hk p0 p1 p2 hs hi hin hkey
        subst hk
        have HE := hide (And.intro hP (And.intro hroot (And.intro hi (And.intro hin hkey))))
        have hqs : (ps : Int) < (S : Int) := by omega
        clear hP hroot hi hin hkey
        have hX := hide (HL.out.ns.copy ⟨(it gI).k, ps, pi⟩)
        go_upto_region 7 with fail
        go_cut [7] (fun s wx => s = .pointer (some ⟨SB, ps * 10, none⟩) ∧ NS B w wx MB SB S hn' hcap' g h' dv' t (fun j => it (gI + j)) (sumC cnt it gI t) ∧ PB B wx wr.heap.size ⟨(it gI).k, ps, pi⟩ g dv')
        case first =>
          go_quiet (fail)
          go_wp2
          go_meet
          case rel => exact ⟨rfl, hX.out.1.later (below_drewN _ _), hX.out.2.later (below_drewN _ _)⟩
        case rest =>
          obtain ⟨rfl, hns, hpk⟩ := hcut
          have HH := hide (And.intro HL.out.heads (And.intro HL.out.ok (And.intro HL.out.rep HL.out.same)))
          have hcle := HL.out.le
          clear m0 m1 m2 m3 f p0 p1 p2 hX hsz hMlt hgM hqs HL
          generalize wr.heap.size = pb at hpk ⊢
          have m2 := hns.m.c2
          have f := hns.m.free
          have hMlt := hns.m.lt
          have hplt := lt_of_block hpk.at_
          have q0 : wc.cell? ⟨pb, 0, none⟩ = some (.int .u64 (it gI).k) := (cell_of_row _ _ _ _ _ _ hpk.at_).trans rfl
          have q1 : wc.cell? ⟨pb, 1, none⟩ = some (.int .i64 ps) := (cell_of_row _ _ _ _ _ _ hpk.at_).trans rfl
          have q2 : wc.cell? ⟨pb, 2, none⟩ = some (.int .i64 pi) := (cell_of_row _ _ _ _ _ _ hpk.at_).trans rfl
          have hneM : some MB ≠ dv'.ownBlock := fun e => owns_ne_M hns.m hns.held e.symm
          obtain ⟨i0, hi, hz0, hz1, hz2⟩ := info_parts Yba.info54
          have hsz := hns.sz
          obtain ⟨gd, cap, w1, hrun, hown, hgrow, hat, hglt⟩ := run_append_lies (P := Yba.prog) (wc.alloc (.cells #[.int .u64 (it gI).k, .int .i64 ps, .int .i64 pi] 54)).drew 45 45 B 54 i0 (.agg #[.int .u64 0, .int .i64 0, .int .i64 0]) 3 24 Yba.underlying45 hi hz0 hz1 hz2 rfl (by decide) dv' t _ (hns.held.alloc _) ⟨wc.heap.size, 0, none⟩ 1 1 [.int .u64 (it gI).k, .int .i64 ps, .int .i64 pi] rfl (World.news_of_block (heap_alloc_new _ _)) (by intro u hu; simp at hu; rcases hu with rfl | rfl | rfl <;> rfl) (by decide) (by unfold maxLen; omega) (by omega) (by simp; omega) (wc.heap.size + 1) (by simp)
          have s1 := (hgrow.cell_far ⟨MB, 2, none⟩ (by simp; omega) hneM).trans ((World.cell?_alloc_past _ _ _ hMlt).trans m2)
          have s2 := (hgrow.frozen_far ⟨MB, 2, none⟩ (by simp; omega) hneM).trans ((World.frozen?_alloc_past _ _ _ hMlt).trans (f 2))
          have HG := hide (And.intro hgrow (And.intro hown hat))
          have HNS := hide (And.intro hns hpk)
          clear hgrow hown hat hglt hi hz0 hz1 hz2 hns hpk
          rw [app_g] at hrun
          go_upto_region 8 with fail
          go_cut [] (fun wx => ∃ dv2, NS B w wx MB SB S hn' hcap' g h' dv2 (t + 1) (fun j => it (gI + j)) (sumC cnt it gI t) ∧ PB B wx pb ⟨(it gI).k, ps, pi⟩ g dv2)
          case first =>
            go_big_region
            go_wp2
            go_meet
            case rel =>
              have hr := HNS.out.1.append HNS.out.2 (.cells #[.int .u64 (it gI).k, .int .i64 ps, .int .i64 pi] 54) (w2 := w1) ⟨HG.out.1.os, HG.out.1.tape, HG.out.1.output, HG.out.1.size, HG.out.1.block⟩ HG.out.2.1 HG.out.2.2
              have e : updP (fun j => it (gI + j)) t ⟨(it gI).k, ps, pi⟩ = fun j => it (gI + j) := by
                funext x
                unfold updP
                split
                · rename_i e; rw [e]; exact HE.out.1.symm
                · rfl
              rw [e] at hr
              exact ⟨_, hr⟩
          case rest =>
            obtain ⟨dv2, hns, hpk⟩ := hcut
            clear m2 f hMlt hplt q0 q1 q2 hneM hsz hrun s1 s2 HG HNS
            have hsi : pi < n ps := by have := HE.out.2.2.1; have := HE.out.2.2.2.1; omega
            have hSg := HF.out.2.1.below hns.below hSB hDB
            have k14 : ∀ W, Below wc.heap.size wc W → Calls Yba.prog 14 #[.pointer (some ⟨SB, ps * 10, none⟩), .int .i64 pi] W fun e w' => (∃ y : Int, e = .returned (.agg #[.int .u64 (key ps pi), .int .u64 pi, .int .u64 y, .int .u32 (cnt ps pi)])) ∧ Below W.heap.size W w' :=
              fun W hb => segEntry (hSg.later hb) HF.out.2.2.1 ps pi hs hsi
            have K14 := hide k14
            have hMlt := hns.m.lt
            have m3 := hns.m.c3
            have f3 := hns.m.free 3
            have hplt := lt_of_block hpk.at_
            have q2 : wc.cell? ⟨pb, 2, none⟩ = some (.int .i64 pi) := (cell_of_row _ _ _ _ _ _ hpk.at_).trans rfl
            have HNS := hide (And.intro hns hpk)
            clear hns hpk k14 hSg
            go_upto_region 9 with fail
            go_cut [] (fun wx => NS B w wx MB SB S hn' hcap' g h' dv2 (t + 1) (fun j => it (gI + j)) (sumC cnt it gI (t + 1)) ∧ PB B wx pb ⟨(it gI).k, ps, pi⟩ g dv2)
            case first =>
              go_region_with (go_at_call 14; refine (K14.out _ ?_).mono ?_; (exact (Below.refl _ _).drew); rintro e w1 ⟨⟨y, rfl⟩, hb⟩; have n3 := (hb.cell (p := ⟨MB, 3, none⟩) hMlt).trans m3; have g3 := (hb.frozen (p := ⟨MB, 3, none⟩) hMlt).trans f3; have HBB := hide hb; clear hb)
              all_goals go_wp2
              all_goals go_meet
              all_goals
                have hb' : Below wc.heap.size wc w1 := ⟨HBB.out.os, HBB.out.tape, HBB.out.output, HBB.out.size, HBB.out.block⟩
                have h1 := HNS.out.1.later hb'
                have h2 := HNS.out.2.later hb'
                have e : sumC cnt it gI (t + 1) = IntKind.u32.wrap (sumC cnt it gI t + cnt ps pi) := by
                  show IntKind.u32.wrap (sumC cnt it gI t + cnt (it (gI + t)).s (it (gI + t)).i) = _
                  rw [HE.out.1]
                rw [e]
                exact ⟨h1.count _, h2.setM h1.m 3 _⟩
            case rest =>
              obtain ⟨hns, hpk⟩ := hcut
              clear hMlt m3 f3 hplt q2 HNS K14
              obtain ⟨bv, hbv⟩ : ∃ bv, decide (pi + 1 < n ps) = bv := ⟨_, rfl⟩
              have HBV := hide hbv
              have hSg := HF.out.2.1.below hns.below hSB hDB
              have k13 : ∀ m, Calls Yba.prog 13 #[.pointer (some ⟨SB, ps * 10, none⟩)] (wc.drewN m) fun e w' => e = .returned (.int .i64 (n ps)) ∧ w' = wc.drewN m :=
                fun m => (segEntries (hSg.later (below_drewN _ m)) HF.out.2.2.1 ps hs).mono fun e w' ⟨h1, h2⟩ => ⟨h1, h2.symm⟩
              have K13 := hide k13
              have q2 : wc.cell? ⟨pb, 2, none⟩ = some (.int .i64 pi) := (cell_of_row _ _ _ _ _ _ hpk.at_).trans rfl
              have hn1 := HF.out.2.2.1.hn ps hs
              have HNS := hide (And.intro hns hpk)
              clear hns hpk k13 hSg hbv
              go_upto_region 10 with fail
              go_cut [90] (fun s wx => s = .bool bv ∧ NS B w wx MB SB S hn' hcap' g h' dv2 (t + 1) (fun j => it (gI + j)) (sumC cnt it gI (t + 1)) ∧ PB B wx pb ⟨(it gI).k, ps, pi⟩ g dv2)
              case first =>
                go_quiet (first | (go_at_call 13; refine Calls.quiet_of_same (K13.out _)))
                all_goals go_wp2
                all_goals go_meet
                all_goals exact ⟨congrArg Value.bool (by rw [← HBV.out]; exact decide_eq_decide.2 (by omega)), HNS.out.1.later (below_drewN _ _), HNS.out.2.later (below_drewN _ _)⟩
              case rest =>
                obtain ⟨rfl, hns, hpk⟩ := hcut
                clear q2 HNS K13
                go_upto_if 90 with fail
                go_cut [] (fun wx => ∃ hn2 h2, NS B w wx MB SB S hn2 hcap' g h2 dv2 (t + 1) (fun j => it (gI + j)) (sumC cnt it gI (t + 1)) ∧ Heads n key (updN pos' ps (pos' ps + 1)) S h2 hn2 ∧ Ok h2 hn2 1 ∧ hn2 ≤ hcap')
                case first =>
                  have m1 := hns.m.c1
                  have f1 := hns.m.free 1
                  have hMlt := hns.m.lt
                  have hgM := hns.gM
                  have hglt := hns.blk.lt
                  have hplt := lt_of_block hpk.at_
                  have q1 : wc.cell? ⟨pb, 1, none⟩ = some (.int .i64 ps) := (cell_of_row _ _ _ _ _ _ hpk.at_).trans rfl
                  have q2 : wc.cell? ⟨pb, 2, none⟩ = some (.int .i64 pi) := (cell_of_row _ _ _ _ _ _ hpk.at_).trans rfl
                  have a0 : wc.cell? ⟨g, 0, none⟩ = _ := hns.blk.c0 h0
                  have a1 : wc.cell? ⟨g, 1, none⟩ = _ := hns.blk.c1 h0
                  have a2 : wc.cell? ⟨g, 2, none⟩ = _ := hns.blk.c2 h0
                  have fg := hns.blk.free
                  cases bv with
                  | true =>
                    have hl : pi + 1 < n ps := by have := HBV.out; simpa using this
                    have hSg := HF.out.2.1.below hns.below hSB hDB
                    have hp1 : (pi : Int) + 1 ≤ 1000000 := by have := HF.out.2.2.1.hn ps hs; omega
                    have hwr : IntKind.i64.wrap ((pi : Int) + 1) = (pi : Int) + 1 := by rw [IntKind.wrap_i64]; omega
                    have k14 : ∀ W, Below wc.heap.size wc W → Calls Yba.prog 14 #[.pointer (some ⟨SB, ps * 10, none⟩), .int .i64 (IntKind.i64.wrap ((pi : Int) + 1))] W fun e w' => (∃ y : Int, e = .returned (.agg #[.int .u64 (key ps (pi + 1)), .int .u64 ((pi : Int) + 1), .int .u64 y, .int .u32 (cnt ps (pi + 1))])) ∧ Below W.heap.size W w' :=
                      fun W hb => by have := segEntry (hSg.later hb) HF.out.2.2.1 ps (pi + 1) hs hl; rw [hwr]; simpa only [Int.natCast_add, Int.natCast_one] using this
                    have K14 := hide k14
                    have HNS := hide hns
                    have hpg := hpk.ng
                    have hgp := hpk.ng.symm
                    have fg0 := fg 0
                    have fg1 := fg 1
                    have fg2 := fg 2
                    clear hns hpk k14 hSg
                    have HL2 := hide (And.intro hl (And.intro hlt' (And.intro hs hwr)))
                    clear hl hlt' hs hqn hgk hsi hn1 hlt hT hS1 hSB hDB hg f1 fg hwr
                    go_upto_region 11 with fail
                    go_region_held3 (fun W => W.cell? ⟨MB, 1, none⟩ = some (.slice (some ⟨g, 0, none⟩) hn' hcap') ∧ W.cell? ⟨pb, 1, none⟩ = some (.int .i64 ps) ∧ W.cell? ⟨pb, 2, none⟩ = some (.int .i64 pi))
                      (first | exact ⟨by assumption, by assumption, by assumption⟩ | go_keep)
                      (first | (go_at_call 14; refine (K14.out _ ?_).mono ?_; (exact (Below.refl _ _).drew); rintro e w1 ⟨⟨y, rfl⟩, hb⟩; have n1 := (hb.cell (p := ⟨MB, 1, none⟩) hMlt).trans m1; have n2 := (hb.cell (p := ⟨pb, 1, none⟩) hplt).trans q1; have n3 := (hb.cell (p := ⟨pb, 2, none⟩) hplt).trans q2; have g0 := (hb.frozen (p := ⟨g, 0, none⟩) hglt).trans fg0; have g1 := (hb.frozen (p := ⟨g, 1, none⟩) hglt).trans fg1; have g2 := (hb.frozen (p := ⟨g, 2, none⟩) hglt).trans fg2; have b0 := (hb.cell (p := ⟨g, 0, none⟩) hglt).trans a0; have b1 := (hb.cell (p := ⟨g, 1, none⟩) hglt).trans a1; have b2 := (hb.cell (p := ⟨g, 2, none⟩) hglt).trans a2; have HBB := hide hb; clear hb))
                    go_wp2
                    go_meet
                    case rel =>
                      have hL0' : h' 0 = ⟨(it gI).k, ps, pi⟩ := HE.out.2.1
                      have hpi : pi = pos' ps := HE.out.2.2.1
                      have hwr := HL2.out.2.2.2
                      have hb' : Below wc.heap.size wc w1 := ⟨HBB.out.os, HBB.out.tape, HBB.out.output, HBB.out.size, HBB.out.block⟩
                      refine ⟨hn', updP h' 0 ⟨key ps (pi + 1), ps, pi + 1⟩, ?_, ?_, ?_, hcle⟩
                      · have h1 := (HNS.out.later hb').put 0 ⟨key ps (pi + 1), ps, pi + 1⟩ h0
                        rw [hwr]
                        simpa only [putPl, Nat.zero_mul, Nat.zero_add, Int.natCast_add, Int.natCast_one] using h1
                      · have := HH.out.1.repl h0 HL2.out.2.2.1 (by rw [hL0']) (by have := HL2.out.1; omega)
                        rw [hpi]
                        exact this
                      · exact Ok.root HH.out.2.1 _ (Nat.le_refl _)
                  | false =>
                    have hl : ¬ pi + 1 < n ps := by have := HBV.out; simpa using this
                    obtain ⟨L, rfl⟩ : ∃ L, hn' = L + 1 := ⟨hn' - 1, by omega⟩
                    have c0 := hns.blk.c0 (j := L) (by omega)
                    have c1 := hns.blk.c1 (j := L) (by omega)
                    have c2 := hns.blk.c2 (j := L) (by omega)
                    have hLc : (L : Int) ≤ (hcap' : Int) := by omega
                    have hL0 : (0 : Int) ≤ (L : Int) := by omega
                    have hLb : (L : Int) ≤ 256 := by have := HH.out.1.le; omega
                    have HNS := hide hns
                    clear hns hpk q1 q2 hplt
                    go_upto_region 12 with fail
                    go_cut [8] (fun s wx => s = .int .i64 L ∧ wc = wx)
                    case first =>
                      go_wp2
                      go_meet
                      case rel => exact ⟨rfl, rfl⟩
                    case rest =>
                      obtain ⟨rfl, rfl⟩ := hcut
                      clear hs hqn hgk hsi hn1 hlt hT hS1 hSB hDB hg
                      have HL2 := hide (And.intro hl hlt')
                      clear hl hlt'
                      go_upto_region 13 with fail
                      go_big_region
                      go_wp2
                      go_meet
                      case rel =>
                        have hL0' : h' 0 = ⟨(it gI).k, ps, pi⟩ := HE.out.2.1
                        have hpi : pi = pos' ps := HE.out.2.2.1
                        have hHd := HH.out.1
                        refine ⟨L, updP h' 0 (h' L), ?_, ?_, ?_, by omega⟩
                        · have h1 := ((HNS.out.put 0 (h' L) (by omega)).cut L (by omega)).later ((Below.refl _ _).drew)
                          simpa only [putPl, Nat.zero_mul, Nat.zero_add] using h1
                        · have := hHd.drop (by omega) (s := ps) (by rw [hL0']) (by have := HL2.out.1; omega)
                          exact this
                        · exact Ok.root HH.out.2.1 _ (by omega)
                case rest =>
                  obtain ⟨hn2, h2, hns, hhd, hok, hle2⟩ := hcut
                  clear hpk
                  have m1 := hns.m.c1
                  by_cases hz2 : hn2 = 0
                  · subst hz2
                    have HD := hide (down_empty g hcap' wc)
                    have HNS := hide (And.intro hns (And.intro hhd hok))
                    clear hns hhd hok
                    go_wp2_with (go_at_call 15; refine HD.out.mono ?_; rintro e w' ⟨rfl, rfl⟩)
                    go_roundg (T - (gI + (t + 1)))
                    case measure => omega
                    case rel =>
                      have hr := HH.out.2.2.1.pop hlt' (by rw [HE.out.1]; exact HE.out.2.2.1)
                      rw [HE.out.1] at hr
                      refine ⟨t + 1, 0, hcap', h2, dv2, _, by omega, HNS.out.1, HNS.out.2.1, fun c h1 h2 h3 => by omega, hr, fun x h1 h2 => ?_, by omega⟩
                      by_cases hx : x = gI + t
                      · rw [hx, HE.out.1]
                      · exact HH.out.2.2.2 x h1 (by omega)
                  · have HD := hide (down_int g hn2 hcap' 0 0 h2 wc rfl hns.blk (by omega) (by have := hhd.le; omega) hok)
                    have HNS := hide (And.intro hns (And.intro hhd hok))
                    clear hns hhd hok
                    go_wp2_with (go_at_call 15; refine HD.out.mono ?_; rintro e w' ⟨rfl, h3, hd⟩; have HDD := hide hd; clear hd)
                    go_roundg (T - (gI + (t + 1)))
                    case measure => omega
                    case rel =>
                      have hr := HH.out.2.2.1.pop hlt' (by rw [HE.out.1]; exact HE.out.2.2.1)
                      rw [HE.out.1] at hr
                      refine ⟨t + 1, hn2, hcap', h3, dv2, _, by omega, HNS.out.1.down HDD.out, HNS.out.2.1.same HDD.out.same (HDD.out.inj HNS.out.2.1.inj), HDD.out.ok, hr, fun x h1 h2 => ?_, hle2⟩
                      by_cases hx : x = gI + t
                      · rw [hx, HE.out.1]
                      · exact HH.out.2.2.2 x h1 (by omega)
      · have hne : ((it (gI + t)).k == (it gI).k) = false := by simpa using hk
        clear hL
        go_wp2
        go_quiet (fail)
        go_wp2
        go_ret3
        refine ⟨t, hn', hcap', h', dv', pos', rfl, ?_, fun _ => hk, HL.out.ns.later (below_drewN _ _), HL.out.heads, HL.out.ok, HL.out.rep, HL.out.same, HL.out.le⟩
        rcases Nat.eq_zero_or_pos t with e | e
        · subst e; exact absurd rfl hk
        · exact e

end Go.Proofs.Ybulkbbhy.Mg
