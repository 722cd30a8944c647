/-
  THE WALK of consentry.LawS2622BVote (3): its beginning, and the whole.
-/
import Derived.Test.YbulkbbgwVoR
namespace Go.Proofs.Ybulkbbgw.Vo
open Go.RowKit
attribute [local go_sem ↓] app_g

theorem Yba.info28 : (Yba.prog.info? 28).map (fun i => (i.zero, i.size, i.bytes)) = some (some (.agg #[.int .i64 0, .int .i64 0]), 2, 16) := by kernel_rfl
theorem Yba.info43 : (Yba.prog.info? 43).map (fun i => (i.zero, i.size, i.bytes)) = some (some (.slice none 0 0), 1, 24) := by kernel_rfl
theorem Yba.info88 : (Yba.prog.info? 88).map (fun i => (i.zero, i.size, i.bytes)) = some (some (.agg #[.slice none 0 0, .nilFunc]), 2, 32) := by kernel_rfl
theorem run_make28 (C : Nat) (hc : C ≤ 100) (w : World) :
    (Instr.makeSlice 26 (.int .i64 0) (.int .i64 ((C : Int) + 1))).run Yba.prog w = .ok (.slice (some ⟨w.heap.size, 0, none⟩) 0 (C + 1)) (w.alloc (.cells (madeCells #[.int .i64 0, .int .i64 0] ((C + 1) * 2)) 28)) := by
  obtain ⟨i, hi, hz, hs, hbb⟩ := info_parts Yba.info28
  have hr := run_make (P := Yba.prog) w 26 28 i _ Yba.underlying26 hi hz .i64 .i64 0 ((C : Int) + 1) (by omega) (by omega) (by rw [hbb]; omega) (by omega)
  have e : ((C : Int) + 1).toNat = C + 1 := by omega
  simp only [e, hs] at hr
  exact hr
theorem run_make88 (C : Nat) (hc : C ≤ 100) (w : World) :
    (Instr.makeSlice 31 (.int .i64 ((C : Int) + 1)) (.int .i64 ((C : Int) + 1))).run Yba.prog w = .ok (.slice (some ⟨w.heap.size, 0, none⟩) (C + 1) (C + 1)) (w.alloc (.cells (madeCells #[.slice none 0 0, .nilFunc] ((C + 1) * 2)) 88)) := by
  obtain ⟨i, hi, hz, hs, hbb⟩ := info_parts Yba.info88
  have hr := run_make (P := Yba.prog) w 31 88 i _ Yba.underlying31 hi hz .i64 .i64 ((C : Int) + 1) ((C : Int) + 1) (by omega) (by omega) (by rw [hbb]; omega) (by omega)
  have e : ((C : Int) + 1).toNat = C + 1 := by omega
  simp only [e, hs] at hr
  exact hr
theorem run_make43 (C : Nat) (hc : C ≤ 100) (w : World) :
    (Instr.makeSlice 30 (.int .i64 ((C : Int) + 1)) (.int .i64 ((C : Int) + 1))).run Yba.prog w = .ok (.slice (some ⟨w.heap.size, 0, none⟩) (C + 1) (C + 1)) (w.alloc (.cells (madeCells #[.slice none 0 0] (C + 1)) 43)) := by
  have := run_make_gen (P := Yba.prog) 30 43 (.slice none 0 0) 24 Yba.underlying30 Yba.info43 rfl (C + 1) (C + 1) (Nat.le_refl _) (by omega) (by omega) w
  simpa only [Int.natCast_add, Int.natCast_one] using this
theorem run_make2 (C : Nat) (hc : C ≤ 100) (w : World) :
    (Instr.makeSlice 36 (.int .i64 ((C : Int) + 1)) (.int .i64 ((C : Int) + 1))).run Yba.prog w = .ok (.slice (some ⟨w.heap.size, 0, none⟩) (C + 1) (C + 1)) (w.alloc (.cells (madeCells #[.int .i64 0] (C + 1)) 2)) := by
  have := run_make_gen (P := Yba.prog) 36 2 (.int .i64 0) 8 Yba.underlying36 Yba.info2 rfl (C + 1) (C + 1) (Nat.le_refl _) (by omega) (by omega) w
  simpa only [Int.natCast_add, Int.natCast_one] using this
theorem run_room28 {w : World} {b C k : Nat} (h : SRow w b C k) (hk : k < C + 1) (fr : Int) :
    (appG #[26, 26] 26 #[.slice (some ⟨b, 0, none⟩) k (C + 1), .slice (some ⟨w.heap.size, 0, none⟩) 1 1]).run Yba.prog (w.alloc (.cells #[.int .i64 fr, .int .i64 k] 28)) = .ok (.slice (some ⟨b, 0, none⟩) (k + 1) (C + 1)) (((w.alloc (.cells #[.int .i64 fr, .int .i64 k] 28)).setCell ⟨b, k * 2, none⟩ (.int .i64 fr)).setCell ⟨b, k * 2 + 1, none⟩ (.int .i64 k)) := by
  obtain ⟨i0, hi, -, hz1, -⟩ := info_parts Yba.info28
  have hA : SRow (w.alloc (.cells #[.int .i64 fr, .int .i64 k] 28)) b C k := h.of_block (Below.heap_alloc _ _ _ h.lt)
  have := run_append_room_cells (P := Yba.prog) (w.alloc (.cells #[.int .i64 fr, .int .i64 k] 28)) 26 26 28 i0 Yba.underlying26 hi b 0 k (C + 1) ⟨w.heap.size, 0, none⟩ 1 1 [.int .i64 fr, .int .i64 k] (by rw [hz1]; rfl) (World.news_of_block (heap_alloc_new _ _)) (by intro u hu; simp at hu; rcases hu with rfl | rfl <;> rfl) (by omega)
    (by intro j hj; rw [hz1]; simp at hj; exact hA.some (by omega)) (by intro j hj; exact hA.free _)
  rw [hz1, Nat.zero_add] at this
  exact this

/-- The names. -/
def nmS (x : Nat) : ByteArray := if x = 0 then ⟨#[97]⟩ else if x = 1 then ⟨#[98]⟩ else if x = 2 then ⟨#[99]⟩ else if x = 3 then ⟨#[100]⟩ else ⟨#[101]⟩
theorem names_new (w : World) : ∀ x, x ≤ 4 → (w.alloc (.cells #[.string ⟨#[97]⟩, .string ⟨#[98]⟩, .string ⟨#[99]⟩, .string ⟨#[100]⟩, .string ⟨#[101]⟩] 9)).cell? ⟨w.heap.size, x, none⟩ = some (.string (nmS x)) := by
  intro x hx
  rw [cell_of_row _ _ _ _ _ _ (heap_alloc_new _ _)]
  match x, hx with
  | 0, _ => rfl
  | 1, _ => rfl
  | 2, _ => rfl
  | 3, _ => rfl
  | 4, _ => rfl
theorem ps_mk {w wn w8 w9 : World} {C nb vb : Nat} (pb : Nat) (hC4 : C ≤ 4) (hB0 : Below w.heap.size w wn) (hN0 : ∀ x, x ≤ 4 → wn.cell? ⟨nb, x, none⟩ = some (.string (nmS x))) (hnl : nb < wn.heap.size) (hb8 : Below wn.heap.size wn w8) (hS : SRow w8 vb C (C + 1)) (hb9 : Below w8.heap.size w8 w9) (hpb : w9.heap.size = pb) (x2 x3 : Value) :
    PS w (w9.alloc (.cells #[.int .i64 2, .slice (some ⟨nb, 0, none⟩) (C + 1) 5, x2, x3, .slice none 0 0, .slice (some ⟨vb, 0, none⟩) (C + 1) (C + 1), .int .i64 0, .int .i64 C] 33)) C nb vb pb nmS := by
  subst hpb
  have z0 := hB0.size
  have z8 := hb8.size
  have z9 := hb9.size
  have zv := hS.lt
  have hS9 : SRow (w9.alloc (.cells #[.int .i64 2, .slice (some ⟨nb, 0, none⟩) (C + 1) 5, x2, x3, .slice none 0 0, .slice (some ⟨vb, 0, none⟩) (C + 1) (C + 1), .int .i64 0, .int .i64 C] 33)) vb C (C + 1) := (hS.of_block (hb9.block _ zv)).of_block (Below.heap_alloc _ _ _ (by omega))
  exact ⟨(((hB0.trans (hb8.mono z0)).trans (hb9.mono (by omega)))).alloc (by omega) _, (cell_of_row _ _ _ _ _ _ (heap_alloc_new _ _)).trans rfl, (cell_of_row _ _ _ _ _ _ (heap_alloc_new _ _)).trans rfl, (cell_of_row _ _ _ _ _ _ (heap_alloc_new _ _)).trans rfl, (cell_of_row _ _ _ _ _ _ (heap_alloc_new _ _)).trans rfl, hS9.slots,
    fun x hx => (World.cell?_alloc_past _ _ _ (show nb < w9.heap.size by omega)).trans (((hb9.cell (p := ⟨nb, x, none⟩) (show nb < w8.heap.size by omega)).trans (hb8.cell (p := ⟨nb, x, none⟩) hnl)).trans (hN0 x (by omega))), by simp; omega⟩

theorem PS.drew {w w1 : World} {C nb vb pb : Nat} {nm : Nat → ByteArray} (h : PS w w1 C nb vb pb nm) : PS w w1.drew C nb vb pb nm := ⟨h.below.drew, h.p0, h.p1, h.p5, h.p6, h.slots, h.names, h.lt⟩
theorem QS.eqc {w1 w2 : World} {N C pb rb eb cb ib lb sb : Nat} {st cl : Nat → Int} {inn : Nat → Bool} (h : QS w1 w2 N C pb rb eb cb ib lb sb st cl inn) (e : ∀ x, x < C + 1 → cl x = st x) : QS w1 w2 N C pb rb eb cb ib lb sb st st inn :=
  h.turn h.below (Nat.le_refl _) rfl rfl rfl (h.cells.congr (fun i hi => by rw [e i hi])) h.inn h.start
theorem below_drewN (w : World) (m : Nat) : Below w.heap.size w (w.drewN m) := ⟨rfl, rfl, rfl, Nat.le_refl _, fun _ _ => rfl⟩

set_option maxRecDepth 1000000 in
set_option maxHeartbeats 4000000 in
theorem law_walk (w : World) (ns cs im : Nat) (hns : ns < 256) (hcs : cs < 256) (a3 a4 a5 a6 : Option Addr) (n3 n4 n5 n6 k3 k4 k5 k6 : Nat) (x3 x4 x6 : Nat → Int) (x5 : Nat → Bool) (h3 : InS w a3 n3 (fun i => .int .u8 (x3 i))) (h4 : InS w a4 n4 (fun i => .int .i8 (x4 i))) (h5 : InS w a5 n5 (fun i => .bool (x5 i))) (h6 : InS w a6 n6 (fun i => .int .i8 (x6 i)))
    (hx3 : ∀ i, 0 ≤ x3 i ∧ x3 i ≤ 255) (hx4 : ∀ i, -128 ≤ x4 i ∧ x4 i ≤ 127) (hx6 : ∀ i, -128 ≤ x6 i ∧ x6 i ≤ 127) :
    Calls Yba.prog 3 #[.int .u8 ns, .int .u8 cs, .int .u8 im, .slice a3 n3 k3, .slice a4 n4 k4, .slice a5 n5 k5, .slice a6 n6 k6] w fun e w' => e = .returned (.bool true) ∧ Below w.heap.size w w' := by
  have HX := hide (And.intro h3 (And.intro h4 (And.intro h5 (And.intro h6 (And.intro hx3 (And.intro hx4 hx6))))))
  have m6 : n6 ≤ maxLen := h6.1
  unfold maxLen at m6
  clear h3 h4 h5 h6 hx3 hx4 hx6
  go_enter Yba.func3, Yba.ntmps3
  go_upto_region 1 with fail
  go_cut [15] from 48 to 51 (fun x wx => ∃ N : Nat, x = .int .i64 N ∧ 3 ≤ N ∧ N ≤ 8 ∧ w = wx)
  case first =>
    go_wp2
    go_meet
    case rel => exact ⟨3 + ns % 6, by go_num, by omega, by omega, rfl⟩
  case rest =>
    obtain ⟨N, rfl, hN3, hN8, rfl⟩ := hcut
    go_upto_region 2 with fail
    go_cut [16] from 52 to 55 (fun x wx => ∃ C : Nat, x = .int .i64 C ∧ 1 ≤ C ∧ C ≤ 4 ∧ w = wx)
    case first =>
      go_wp2
      go_meet
      case rel => exact ⟨1 + cs % 4, by go_num, by omega, by omega, rfl⟩
    case rest =>
      obtain ⟨C, rfl, hC1, hC4, rfl⟩ := hcut
      have km28 := run_make28 C (by omega)
      have hC5 : (C : Int) + 1 ≤ 5 := by omega
      go_upto_region 6 with fail
      clear km28
      have hN0 := names_new w
      have hB0 := (Below.refl w.heap.size w).alloc (Nat.le_refl _) (.cells #[.string ⟨#[97]⟩, .string ⟨#[98]⟩, .string ⟨#[99]⟩, .string ⟨#[100]⟩, .string ⟨#[101]⟩] 9)
      have hs0 := World.heap_size_alloc' w (.cells #[.string ⟨#[97]⟩, .string ⟨#[98]⟩, .string ⟨#[99]⟩, .string ⟨#[100]⟩, .string ⟨#[101]⟩] 9)
      generalize w.alloc (.cells #[.string ⟨#[97]⟩, .string ⟨#[98]⟩, .string ⟨#[99]⟩, .string ⟨#[100]⟩, .string ⟨#[101]⟩] 9) = wn at hN0 hB0 hs0 ⊢
      rw [← hs0]
      obtain ⟨nb, hnb⟩ : ∃ nb, w.heap.size = nb := ⟨_, rfl⟩
      have hnl : nb < wn.heap.size := by omega
      rw [hnb] at hN0 ⊢
      have hS0 := SRow.made wn C
      have hB9 := (Below.refl wn.heap.size wn).alloc (Nat.le_refl _) (.cells (madeCells #[.int .i64 0, .int .i64 0] ((C + 1) * 2)) 28)
      generalize wn.alloc (.cells (madeCells #[.int .i64 0, .int .i64 0] ((C + 1) * 2)) 28) = w9 at hS0 hB9 ⊢
      obtain ⟨vb, hvb⟩ : ∃ vb, wn.heap.size = vb := ⟨_, rfl⟩
      rw [hvb] at hS0 ⊢
      have HN := hide (And.intro hB0 (And.intro hN0 (And.intro hnl hvb)))
      have HS := hide (And.intro hB9 hS0)
      clear hB0 hN0 hnl hvb hB9 hS0 hs0 hnb
      go_loopg [18, 19] C (fun gk x y wx => ∃ k : Nat, x = .slice (some ⟨vb, 0, none⟩) k (C + 1) ∧ y = .int .i64 k ∧ gk + k = C ∧ Below wn.heap.size wn wx ∧ SRow wx vb C k)
      case atStart => exact ⟨0, rfl, rfl, by omega, HS.out⟩
      case round =>
        clear HS
        obtain ⟨k, rfl, rfl, hgk, hb, hS⟩ := hrel
        by_cases hk : k < C
        · have hrun := run_room28 hS (by omega) 1
          have hqk : (k : Int) < (C : Int) := by omega
          have HS := hide (And.intro hb hS)
          clear hb hS
          go_wp2
          go_roundg (C - (k + 1))
          case measure => omega
          case rel =>
            have h0 := (HS.out.2.of_block (w1 := wr.alloc (.cells #[.int .i64 1, .int .i64 k] 28)) (Below.heap_alloc _ _ _ HS.out.2.lt)).add (by omega) 1 (by rw [if_pos hk])
            have hvb : wn.heap.size ≤ vb := Nat.le_of_eq HN.out.2.2.2
            exact ⟨k + 1, rfl, by go_num, by omega, ((HS.out.1.alloc HS.out.1.size _).setCell (p := ⟨vb, k * 2, none⟩) hvb _).setCell (p := ⟨vb, k * 2 + 1, none⟩) hvb _, h0⟩
        · obtain rfl : C = k := by omega
          have hrun := run_room28 hS (by omega) 2
          have HS := hide (And.intro hb hS)
          clear hb hS
          go_upto_region 10 with fail
          have hvb : wn.heap.size ≤ vb := Nat.le_of_eq HN.out.2.2.2
          have h8 := hide (And.intro (((HS.out.1.alloc HS.out.1.size (.cells #[.int .i64 2, .int .i64 C] 28)).setCell (p := ⟨vb, C * 2, none⟩) hvb (.int .i64 2)).setCell (p := ⟨vb, C * 2 + 1, none⟩) hvb (.int .i64 C)) ((HS.out.2.of_block (w1 := wr.alloc (.cells #[.int .i64 2, .int .i64 C] 28)) (Below.heap_alloc _ _ _ HS.out.2.lt)).add (by omega) 2 (by rw [if_neg (Nat.lt_irrefl _)])))
          generalize ((wr.alloc (.cells #[.int .i64 2, .int .i64 C] 28)).setCell ⟨vb, C * 2, none⟩ (.int .i64 2)).setCell ⟨vb, C * 2 + 1, none⟩ (.int .i64 C) = w8 at h8 ⊢
          clear hrun HS hvb
          go_cut [20] from 78 to 88 (fun x wx => ∃ pb, x = .pointer (some ⟨pb, 0, none⟩) ∧ PS w wx C nb vb pb nmS)
          case first =>
            have km43 := run_make43 C (by omega)
            have km88 := run_make88 C (by omega)
            go_big_region
            all_goals go_wp2
            all_goals go_meet
            all_goals exact ⟨_, rfl, (ps_mk _ hC4 HN.out.1 HN.out.2.1 HN.out.2.2.1 h8.out.1 h8.out.2 (((Below.refl _ w8).alloc (Nat.le_refl _) _).alloc (by simp) _) (by simp) _ _).drew⟩
          case rest =>
            obtain ⟨pb, rfl, hP⟩ := hcut
            obtain ⟨w1, hw1⟩ : ∃ w1, w1 = wc := ⟨_, rfl⟩
            subst hw1
            have K4 := hide (newReplica_any N C pb nb 5 w1 hN8 hC4 hP.lt.1 hP.p0 hP.p1 hP.p6)
            have km2 := run_make2 C (by omega)
            have HP := hide hP
            clear hP h8 HN
            go_upto_region 14 with (go_at_call 4; refine K4.out.mono ?_; rintro e w2 ⟨rb, eb, cb, ib, lb, rfl, hRS⟩; have HR := hide hRS; clear hRS)
            have hQ0 := hide (QS.of_rs HR.out)
            clear HR km2 K4
            generalize w2.alloc (.cells (madeCells #[.int .i64 0] (C + 1)) 2) = wq at hQ0 ⊢
            generalize w2.heap.size = sb at hQ0 ⊢
            go_loopg [97] (C + 1) (fun gk y wx => ∃ (c : Nat) (st cl : Nat → Int), y = .int .i64 c ∧ gk + c = C + 1 ∧ QS w1 wx N C pb rb eb cb ib lb sb st cl (fun _ => true) ∧ ∀ x, x < c → cl x = st x)
            case atStart => exact ⟨0, _, _, rfl, by omega, hQ0.out, fun x hx => by omega⟩
            case round =>
              clear hQ0
              obtain ⟨c, st, cl, rfl, hgk2, hQ, he⟩ := hrel
              by_cases hc : c < C + 1
              · have hqc : (c : Int) < (C : Int) + 1 := by omega
                have hqc2 : (c : Int) ≤ (C : Int) := by omega
                have HQ := hide (And.intro hQ he)
                clear hQ he
                go_upto_if 103 with fail
                go_cut [] (fun wx => ∃ st' : Nat → Int, QS w1 wx N C pb rb eb cb ib lb sb st' cl (fun _ => true) ∧ ∀ x, x < c → cl x = st' x)
                case first =>
                  by_cases h6 : c < n6
                  · have hbw : Below w.heap.size w wr := HP.out.below.trans (HQ.out.1.below.mono HP.out.below.size)
                    obtain ⟨b6, o6, rfl, d6⟩ := HX.out.2.2.2.1.at h6 hbw
                    have hx6 := HX.out.2.2.2.2.2.2 c
                    generalize x6 c = xv at d6 hx6
                    have hq6 : (c : Int) < (n6 : Int) := by omega
                    have s0 := HQ.out.1.start.cell hc
                    have sf := HQ.out.1.start.frozen c
                    clear hbw
                    go_wp2
                    go_meet
                    case rel => exact ⟨_, HQ.out.1.setS c _, fun x hx => by rw [if_neg (by omega)]; exact HQ.out.2 x hx⟩
                  · have hq6 : ¬ (c : Int) < (n6 : Int) := by omega
                    go_wp2
                    go_meet
                    case rel => exact ⟨st, HQ.out⟩
                case rest =>
                  clear HQ
                  obtain ⟨st', hQ, he⟩ := hcut
                  have r2 := hQ.r2
                  have s0 := hQ.start.cell hc
                  have e0 := hQ.cells.cell hc
                  have ef := hQ.cells.frozen c
                  have HQ := hide (And.intro hQ he)
                  clear hQ he
                  go_upto_region 18 with fail
                  go_big_region
                  go_wp2
                  go_roundg (C + 1 - (c + 1))
                  case measure => omega
                  case rel =>
                    refine ⟨c + 1, st', _, by go_num, by omega, (HQ.out.1.later (below_drewN wc _)).setE c (st' c), fun x hx => ?_⟩
                    by_cases hxc : x = c
                    · rw [if_pos hxc, hxc]
                    · rw [if_neg hxc]; exact HQ.out.2 x (by omega)
              · obtain rfl : c = C + 1 := by omega
                have hQ3 := hide (hQ.eqc he)
                clear hQ he
                go_upto_region 21 with fail
                go_loopg [24] N (fun gk y wx => ∃ (n : Nat) (inn : Nat → Bool), y = .int .i64 n ∧ gk + n = N ∧ QS w1 wx N C pb rb eb cb ib lb sb st st inn)
                case atStart => exact ⟨0, _, rfl, by omega, hQ3.out⟩
                case round =>
                  clear hQ3
                  obtain ⟨n, inn, rfl, hgk3, hQ⟩ := hrel
                  by_cases hn : n < N
                  · have hqn : (n : Int) < (N : Int) := by omega
                    have r5 := hQ.r5
                    have c1 := hQ.c1
                    have i0 := hQ.inn.cell hn
                    have fi := hQ.inn.frozen n
                    have HQ := hide hQ
                    clear hQ
                    go_wp2
                    go_roundg (N - (n + 1))
                    case measure => omega
                    case rel => exact ⟨n + 1, _, by go_num, by omega, HQ.out.setI n _⟩
                  · have hqn : ¬ (n : Int) < (N : Int) := by omega
                    have HV := hide (partV w w1 wr N C nb vb pb rb eb cb ib lb sb nmS st inn (by omega) hN8 hC1 hC4 HP.out hQ a3 a4 a5 n3 n4 n5 k3 k4 k5 x3 x4 x5 HX.out.1 HX.out.2.1 HX.out.2.2.1 HX.out.2.2.2.2.1 HX.out.2.2.2.2.2.1)
                    clear hQ
                    go_upto_region 24 with fail
                    refine HV.out _ _ _ _ _ _ _ _ _ _ _ _ _ _ _ _ _ _ _ _ _ _ _ _ _ _ _ _ _ _ _ _ _ _ _ _ _ _ _ _ _ _ _ _ _ _ _ _ _ _ _ _ _ _ _ _ _ _ _ _ _ _ _ _ _ _ _ _ _ _ _ _ _ _ _ _ _ _ _ _ _ _ _ _ _ _ _ _ _ _ _ _ _ _ _ _ _ _ _ _ _ _ _ _ _ _ _ _ _ _ _ _ _ _ _ _ _ _ _ _ _ _ _ _ _ _ _ _ _ _ _ _ _ _ _ _ _ _ _ _ _ _ _ _ _ _ _ _ _ _ _ _ _ _ _ _ _ _ _ _ _ _ _ _ _ _ _ _ _ _ _ _ _ _ _ _ _ _ _ _ _ _ _ _ _ _ _ _ _ _ _ _ _ _ _ _ _ _ _ _ _ _ _ _ _ _ _ _ _ _ _ _ _ _ _ _ _ _ _ _ _ _ _ _ _ _ _ _ _ _ _ _ _ _ _ _ _ _ _ _ _ _ _ _ _ _ _ _ _ _ _ _ _ _ _ _ _ _ _ _ _ _ _ _ _ _ _ _ _ _ _ _ _ _ _ _ _ _ _ _ _ _ _ _ _ _ _ _ _ _ _ _ _ _ _ _ _ _ _ _ _ _ _ _ _ _ _ _ _ _ _ _ _ _ _ _ _ _ _ _ _ _ _ _ _ _ _ _ _ _ _ _ _ _ _ _ _ _ _ _ _ _ _ _ _ _ _ _ _ _ _ _ _ _ _ _ _ _ _ _ _ _ _ _ _ _ _ _ _ _ _ _ _ _ _ _ _ _ _ ?_
                    assumption
end Go.Proofs.Ybulkbbgw.Vo
