/-
  THE WALK of trigrove.LawS2624AMerge (3).
-/
import Derived.Test.YbulkbbhyMgChk
namespace Go.Proofs.Ybulkbbhy.Mg
open Go.RowKit
attribute [local go_sem ↓] app_g

set_option maxRecDepth 20000 in
set_option maxHeartbeats 40000000 in
/-- THE WALK of LawS2624AMerge. -/
theorem law_walk (w : World) (a : Option Addr) (cap b o S : Nat) (n lc lb lo : Nat → Nat) (la : Nat → Option Addr) (stp cnt : Nat → Nat → Nat) (H : InAt w a b o S n lc lb lo la stp cnt) (hS : S ≤ 256) :
    Calls Yba.prog 3 #[.slice a S cap] w fun e w' => e = .returned (.bool true) ∧ Below w.heap.size w w' := by
  have HIn := hide H
  have h256 : decide ((256 : Int) < (S : Int)) = false := by simp; omega
  clear H
  go_enter Yba.func3, Yba.ntmps3
  go_wp2
  go_loopg [3, 31] S (fun gk tt i wr => ∃ s : Nat, i = .int .i64 s ∧ gk + s = S ∧ tt = .int .i64 (tot n s) ∧ tot n s ≤ 1024 ∧ w = wr)
  case atStart => exact ⟨0, rfl, by omega, rfl, by simp [tot], rfl⟩
  case round =>
    obtain ⟨s, rfl, hgk, rfl, ht, rfl⟩ := hrel
    by_cases hlt : s < S
    · obtain ⟨rfl, hb⟩ := HIn.out.ad (by omega)
      have c := HIn.out.c s hlt
      have hmx : n s ≤ 17592186043904 := HIn.out.mx s hlt
      have hqs : (s : Int) < (S : Int) := by omega
      obtain ⟨N, hN⟩ : ∃ N, n s = N := ⟨_, rfl⟩
      obtain ⟨t0, ht0⟩ : ∃ t0, tot n s = t0 := ⟨_, rfl⟩
      have hsum : tot n (s + 1) = t0 + N := by rw [← ht0, ← hN]; rfl
      rw [hN] at c hmx
      rw [ht0] at ht ⊢
      have HS := hide hsum
      clear hN ht0 hsum
      by_cases hbig : (1024 : Int) < (t0 : Int) + (N : Int)
      · go_wp2
        go_ret
        exact ⟨rfl, Below.refl _ _⟩
      · have hbig' : decide ((1024 : Int) < (t0 : Int) + (N : Int)) = false := by simpa using hbig
        go_wp2
        go_roundg (S - (s + 1))
        case measure => omega
        case rel => exact ⟨s + 1, by go_num, by omega, congrArg (Value.int .i64) (by rw [HS.out]; simp), by rw [HS.out]; omega, rfl⟩
    · obtain rfl : s = S := by omega
      have hseg := run_make_gen (P := Yba.prog) 24 40 _ 10 136 Yba.underlying24 Yba.info40 s s (Nat.le_refl _) (by omega) (by omega)
      have hits : ∀ w, (Instr.makeSlice 25 (.int .i64 0) (.int .i64 (tot n s : Int))).run Yba.prog w = .ok (.slice (some ⟨w.heap.size, 0, none⟩) 0 (tot n s)) (w.alloc (.cells (madeCells #[.int .u64 0, .int .i64 0, .int .i64 0, .int .u32 0] (tot n s * 4)) 36)) := run_make_gen (P := Yba.prog) 25 36 _ 4 32 Yba.underlying25 Yba.info36 0 (tot n s) (Nat.zero_le _) (by omega) (by omega)
      obtain ⟨T, hT⟩ : ∃ T, tot n s = T := ⟨_, rfl⟩
      rw [hT] at hits ht ⊢
      have HT := hide hT
      clear hT
      have h2 := hide (L2.start w s (tot n s) n (fun _ => 0) (keyF stp) cnt (fun _ => ⟨0, 0, 0⟩))
      rw [HT.out] at h2
      go_wp2
      go_loopg [7, 49] s (fun gk v x wr => ∃ (t m : Nat) (DB : Nat → Nat) (it : Nat → Pl), x = .int .i64 t ∧ gk + t = s ∧ v = .slice (some ⟨w.heap.size + 1, 0, none⟩) m T ∧ m = tot n t ∧ L2 w wr w.heap.size (w.heap.size + 1) s T m t n DB (keyF stp) cnt it)
      case atStart => exact ⟨0, 0, fun _ => 0, fun _ => ⟨0, 0, 0⟩, rfl, by omega, rfl, rfl, h2.out⟩
      case round =>
        clear hseg hits h2
        obtain ⟨t, m, DB, it, rfl, hgk2, rfl, hm, hL⟩ := hrel
        by_cases hlt2 : t < s
        · obtain ⟨w0, hw0⟩ : ∃ w0, w0 = wr := ⟨_, rfl⟩
          subst hw0
          obtain ⟨rfl, hb⟩ := HIn.out.ad (by omega)
          have hmT : m + n t ≤ T := by rw [hm, ← HT.out]; exact tot_le n (show t + 1 ≤ s by omega)
          have hn1 : n t ≤ 1024 := by omega
          have c := (hL.below.cell (p := ⟨b, o + t, none⟩) hb).trans (HIn.out.c t hlt2)
          have hqt : (t : Int) < (s : Int) := by omega
          have hqn : (n t : Int) ≤ 1024 := by omega
          have hmk : ∀ w, (Instr.makeSlice 26 (.int .i64 ((n t : Int) * 20)) (.int .i64 ((n t : Int) * 20))).run Yba.prog w = .ok (.slice (some ⟨w.heap.size, 0, none⟩) (n t * 20) (n t * 20)) (w.alloc (.cells (madeCells #[.int .u8 0] (n t * 20)) 5)) := by
            intro w
            have := run_make_gen (P := Yba.prog) 26 5 _ 1 1 Yba.underlying26 Yba.info5 (n t * 20) (n t * 20) (Nat.le_refl _) (by omega) (by omega) w
            rw [Nat.mul_one, Int.natCast_mul] at this
            exact this
          obtain ⟨LA, hLA⟩ : ∃ LA, la t = LA := ⟨_, rfl⟩
          rw [hLA] at c
          have HLA := hide hLA
          clear hLA
          have h3 := hide (hL.three (N := n t * 20) (k := keyF stp t) (c := cnt t))
          have HL := hide hL
          have HM := hide hm
          clear hL hm
          go_wp2
          go_loopg [7, 11, 60] (n t) (fun gk v kv x wx => ∃ (j : Nat) (it' : Nat → Pl), x = .int .i64 j ∧ gk + j = n t ∧ v = .slice (some ⟨w.heap.size + 1, 0, none⟩) (m + j) T ∧ kv = .int .u64 (psum (stp t) j) ∧ L3 w0 wx (w.heap.size + 1) T (m + j) cnt it' w0.heap.size (n t * 20) (keyF stp t) (cnt t) j 0 ∧ Its n (keyF stp) it' (m + j) t j)
          case atStart => exact ⟨0, it, rfl, by omega, rfl, rfl, h3.out, HL.out.srt⟩
          case round =>
            clear hmk h3 c
            obtain ⟨j, it', rfl, hgk3, rfl, rfl, hL3, hIts⟩ := hrel
            by_cases hj : j < n t
            · obtain ⟨hla, hlb⟩ := HIn.out.ea t hlt2 (by omega)
              obtain rfl : LA = some ⟨lb t, lo t, none⟩ := HLA.out.symm.trans hla
              clear hla
              have hbx : Below w.heap.size w wr := HL.out.below.grown hL3.grown HL.out.below.size (fun k e => by simp at e; omega)
              have e0 := (hbx.cell (p := ⟨lb t, lo t + j * 2, none⟩) hlb).trans (HIn.out.e0 t j hlt2 hj)
              have e1 := (hbx.cell (p := ⟨lb t, lo t + j * 2 + 1, none⟩) hlb).trans (HIn.out.e1 t j hlt2 hj)
              have hqj : (j : Int) < (n t : Int) := by omega
              have hst : (stp t j : Int) < 256 := by have := HIn.out.hs t j; omega
              have hps : (psum (stp t) j : Int) ≤ 4096 := by have := psum_le (stp t) j; omega
              have HL3 := hide (And.intro hL3 (And.intro hIts hbx))
              clear hL3 hIts hbx
              go_upto_region 20 with fail
              go_cut [12, 13] (fun x y wx => ∃ eb, x = .int .i64 j ∧ y = .pointer (some ⟨eb, 0, none⟩) ∧ L3 w0 wx (w.heap.size + 1) T (m + j) cnt it' w0.heap.size (n t * 20) (keyF stp t) (cnt t) j 0 ∧ EB wx eb (stp t j) (cnt t j))
              case first =>
                go_wp2
                go_meet
                case rel => exact ⟨_, rfl, rfl, HL3.out.1.later ((Below.refl _ _).alloc (Nat.le_refl _) _), heap_alloc_new _ _⟩
              case rest =>
                obtain ⟨eb, rfl, rfl, hL3, hEB⟩ := hcut
                clear e0 e1
                have q0 : wc.cell? ⟨eb, 0, none⟩ = some (.int .u8 (stp t j)) := (cell_of_row _ _ _ _ _ _ hEB).trans rfl
                go_upto_region 21 with fail
                go_cut [11] (fun kv wx => kv = .int .u64 (keyF stp t j) ∧ wc = wx)
                case first =>
                  have hkk : keyF stp t j = psum (stp t) j + (stp t j % 4 + 1) := rfl
                  have HK := hide hkk
                  clear hkk
                  generalize psum (stp t) j = P at HK hps ⊢
                  generalize stp t j = x at HK q0 hst ⊢
                  go_wp2
                  go_meet
                  case rel => exact ⟨congrArg (Value.int .u64) (by rw [HK.out]; omega), rfl⟩
                case rest =>
                  obtain ⟨rfl, rfl⟩ := hcut
                  clear q0 hps hst
                  have hk : keyF stp t j < 18446744073709551616 := by have := psum_le (stp t) (j + 1); unfold keyF; omega
                  have hq20 : (j : Int) * 20 ≤ (n t : Int) * 20 := by omega
                  have HE := hide (And.intro hL3 (And.intro hEB hk))
                  clear hL3 hEB hk
                  go_upto_region 23 with fail
                  go_cut [] (fun wx => L3 w0 wx (w.heap.size + 1) T (m + j) cnt it' w0.heap.size (n t * 20) (keyF stp t) (cnt t) j 1 ∧ EB wx eb (stp t j) (cnt t j))
                  case first =>
                    have K6 := hide (put64 w0.heap.size (j * 20) (n t * 20 - j * 20) (n t * 20 - j * 20) (keyF stp t j) (n t * 20) wc.drew HE.out.2.2 HE.out.1.dir.row (by omega) (by omega))
                    go_region_with (go_at_call 6; refine K6.out.mono ?_; rintro e w1 ⟨rfl, hst⟩; have HST := hide hst; clear hst)
                    all_goals go_wp2
                    all_goals go_meet
                    all_goals exact ⟨(HE.out.1.later (Below.refl _ _).drew).step HST.out.grown ((HE.out.1.later (Below.refl _ _).drew).dir.putK HST.out), EB.grown (w := wc.drew) HE.out.2.1 HE.out.1.dir.row (by decide) HST.out.grown⟩
                  case rest =>
                    obtain ⟨hL3, hEB⟩ := hcut
                    clear HE
                    have hq2 : (j : Int) * 20 + 8 ≤ (n t : Int) * 20 := by omega
                    have hq3 : (0 : Int) ≤ (j : Int) * 20 + 8 := by omega
                    have hq4 : IntKind.i64.wrap ((j : Int) * 20 + 8) = (j : Int) * 20 + 8 := by rw [IntKind.wrap_i64]; omega
                    have hq5 : ((j : Int) * 20 + 8).toNat = j * 20 + 8 := by omega
                    have hq6 : ¬ n t * 20 = j * 20 + 8 := by omega
                    have hq7 : IntKind.u64.wrap (j : Int) = (j : Int) := by rw [IntKind.wrap_u64]; omega
                    have HE := hide (And.intro hL3 hEB)
                    clear hL3 hEB
                    go_upto_region 24 with fail
                    go_cut [] (fun wx => L3 w0 wx (w.heap.size + 1) T (m + j) cnt it' w0.heap.size (n t * 20) (keyF stp t) (cnt t) j 2 ∧ EB wx eb (stp t j) (cnt t j))
                    case first =>
                      have K6 := hide (put64 w0.heap.size (j * 20 + 8) (n t * 20 - (j * 20 + 8)) (n t * 20 - (j * 20 + 8)) j (n t * 20) wc.drew (by omega) HE.out.1.dir.row (by omega) (by omega))
                      go_region_with (go_at_call 6; refine K6.out.mono ?_; rintro e w1 ⟨rfl, hst⟩; have HST := hide hst; clear hst)
                      all_goals go_wp2
                      all_goals go_meet
                      all_goals exact ⟨(HE.out.1.later (Below.refl _ _).drew).step HST.out.grown ((HE.out.1.later (Below.refl _ _).drew).dir.putI HST.out), EB.grown (w := wc.drew) HE.out.2 HE.out.1.dir.row (by decide) HST.out.grown⟩
                    case rest =>
                      obtain ⟨hL3, hEB⟩ := hcut
                      clear HE
                      have hq2 : (j : Int) * 20 + 16 ≤ (n t : Int) * 20 := by omega
                      have hq3 : (0 : Int) ≤ (j : Int) * 20 + 16 := by omega
                      have hq4 : IntKind.i64.wrap ((j : Int) * 20 + 16) = (j : Int) * 20 + 16 := by rw [IntKind.wrap_i64]; omega
                      have hq5 : ((j : Int) * 20 + 16).toNat = j * 20 + 16 := by omega
                      have hq6 : ¬ n t * 20 = j * 20 + 16 := by omega
                      have q1 : wc.cell? ⟨eb, 1, none⟩ = some (.int .u32 (cnt t j)) := (cell_of_row _ _ _ _ _ _ hEB).trans rfl
                      have HE := hide (And.intro hL3 hEB)
                      clear hL3 hEB
                      go_upto_region 25 with fail
                      go_cut [] (fun wx => L3 w0 wx (w.heap.size + 1) T (m + j) cnt it' w0.heap.size (n t * 20) (keyF stp t) (cnt t) j 3 ∧ EB wx eb (stp t j) (cnt t j))
                      case first =>
                        have K7 := hide (put32 w0.heap.size (j * 20 + 16) (n t * 20 - (j * 20 + 16)) (n t * 20 - (j * 20 + 16)) (cnt t j) (n t * 20) wc.drew (HIn.out.hc t j) HE.out.1.dir.row (by omega) (by omega))
                        go_region_with (go_at_call 7; refine K7.out.mono ?_; rintro e w1 ⟨rfl, hst⟩; have HST := hide hst; clear hst)
                        all_goals go_wp2
                        all_goals go_meet
                        all_goals exact ⟨(HE.out.1.later (Below.refl _ _).drew).step HST.out.grown ((HE.out.1.later (Below.refl _ _).drew).dir.putC HST.out), EB.grown (w := wc.drew) HE.out.2 HE.out.1.dir.row (by decide) HST.out.grown⟩
                      case rest =>
                        obtain ⟨hL3, hEB⟩ := hcut
                        clear HE q1 hq20 hq2 hq3 hq4 hq5 hq6 hq7
                        obtain ⟨i0, hi0, -, hz1, -⟩ := info_parts Yba.info36
                        have HIB := hide hL3.its
                        have hrun := run_append_room_cells (P := Yba.prog) (wc.alloc (.cells #[.int .u64 (keyF stp t j), .int .i64 t, .int .i64 j, .int .u32 (cnt t j)] 36)) 25 25 36 i0 Yba.underlying25 hi0 (w.heap.size + 1) 0 (m + j) T ⟨wc.heap.size, 0, none⟩ 1 1 [.int .u64 (keyF stp t j), .int .i64 t, .int .i64 j, .int .u32 (cnt t j)] (by rw [hz1]; rfl) (World.news_of_block (heap_alloc_new _ _)) (by intro u hu; simp at hu; rcases hu with rfl | rfl | rfl | rfl <;> rfl) (by omega)
                          (by intro k hk; rw [hz1, World.cell?_of_block (a := ⟨w.heap.size + 1, _, none⟩) (Below.heap_alloc _ _ _ hL3.its.lt)]; exact hL3.its.some (by simp at hk; omega))
                          (by intro k hk; rw [World.frozen?_of_block (a := ⟨w.heap.size + 1, _, none⟩) (Below.heap_alloc _ _ _ hL3.its.lt)]; exact hL3.its.free _)
                        rw [hz1, app_g, Nat.zero_add] at hrun
                        have q1 : wc.cell? ⟨eb, 1, none⟩ = some (.int .u32 (cnt t j)) := (cell_of_row _ _ _ _ _ _ hEB).trans rfl
                        have HE := hide hL3
                        clear hL3 hEB hi0 hz1
                        go_upto_region 26 with fail
                        go_cut [7] (fun v wx => v = .slice (some ⟨w.heap.size + 1, 0, none⟩) (m + j + 1) T ∧ L3 w0 wx (w.heap.size + 1) T (m + j + 1) cnt (updP it' (m + j) ⟨keyF stp t j, t, j⟩) w0.heap.size (n t * 20) (keyF stp t) (cnt t) j 3)
                        case first =>
                          go_wp2
                          go_meet
                          case rel =>
                            refine ⟨rfl, ?_⟩
                            have hA := HE.out.later ((Below.refl _ wc).alloc (Nat.le_refl _) (.cells #[.int .u64 (keyF stp t j), .int .i64 t, .int .i64 j, .int .u32 (cnt t j)] 36))
                            exact hA.items (grown_putIt _ _ _ ⟨keyF stp t j, t, j⟩ (cnt t j)) (hA.its.add ⟨keyF stp t j, t, j⟩ (by omega))
                        case rest =>
                          obtain ⟨rfl, hL3⟩ := hcut
                          clear hrun q1 HE
                          obtain ⟨M, hM⟩ : ∃ M, m + j = M := ⟨_, rfl⟩
                          rw [hM] at hL3 ⊢
                          have HMj := hide hM
                          have hM2 : (M : Int) ≤ 2048 := by omega
                          have hMT : (M : Int) + 1 ≤ (T : Int) := by omega
                          clear hM
                          have h4 := hide (L3.items hL3 (grown_refl _ _) (hL3.its.congr (it' := insA it' ⟨keyF stp t j, t, j⟩ M) (fun y hy => by
                            unfold updP
                            split
                            · rename_i e; rw [e, insA_at]
                            · rw [insA_lt _ _ _ _ (by omega)])))
                          clear hL3
                          go_wp2
                          go_loopg [15] M (fun gk x wx => ∃ (q : Nat) (z : Int), x = .int .i64 z ∧ z = (q : Int) ∧ gk = q ∧ q ≤ M ∧ L3 w0 wx (w.heap.size + 1) T (M + 1) cnt (insA it' ⟨keyF stp t j, t, j⟩ q) w0.heap.size (n t * 20) (keyF stp t) (cnt t) j 3 ∧ (∀ y, q ≤ y → y < M → ltP ⟨keyF stp t j, t, j⟩ (it' y)))
                          case atStart => exact ⟨M, M, rfl, rfl, rfl, Nat.le_refl _, h4.out, fun y h1 h2 => by omega⟩
                          case round =>
                            clear h4
                            obtain ⟨q, z, rfl, hz, hgk4, hqM, hL4, hab⟩ := hrel
                            cases q with
                            | zero =>
                              have HL4 := hide (And.intro hL4 hab)
                              clear hL4 hab
                              obtain rfl : z = 0 := hz
                              go_wp2
                              go_quiet (fail)
                              go_wp2
                              go_roundg (n t - (j + 1))
                              case measure => omega
                              case rel =>
                                obtain ⟨it2, r1, r2, r3, r4⟩ := its_done HL3.out.2.1 HMj.out hj (Nat.zero_le _) HL4.out.1 (below_drewN _ nq) HL4.out.2 (.inl rfl)
                                exact ⟨j + 1, it2, by go_num, by omega, r1, r2, r3, r4⟩
                            | succ q =>
                              obtain ⟨r, hr⟩ : ∃ r, ltB ⟨keyF stp t j, t, j⟩ (it' q) = r := ⟨_, rfl⟩
                              have K8 := hide (before_any ⟨keyF stp t j, t, j⟩ (it' q) (cnt t j) (cnt (it' q).s (it' q).i) r wr.drew hr)
                              have c0 := hL4.its.c0 (j := q + 1) (by omega)
                              have c1 := hL4.its.c1 (j := q + 1) (by omega)
                              have c2 := hL4.its.c2 (j := q + 1) (by omega)
                              have c3 := hL4.its.c3 (j := q + 1) (by omega)
                              have d0 := hL4.its.c0 (j := q) (by omega)
                              have d1 := hL4.its.c1 (j := q) (by omega)
                              have d2 := hL4.its.c2 (j := q) (by omega)
                              have d3 := hL4.its.c3 (j := q) (by omega)
                              rw [insA_at] at c0 c1 c2 c3
                              rw [insA_lt _ _ _ _ (Nat.lt_succ_self q)] at d0 d1 d2 d3
                              simp only at c0 c1 c2 c3
                              have hq1 : (0 : Int) < (q : Int) + 1 := by omega
                              have hq2 : (q : Int) + 1 ≤ (M : Int) := by omega
                              have HR := hide hr
                              obtain rfl : z = (q : Int) + 1 := by omega
                              clear hz
                              have hq3 : (q : Int) + 1 < (M : Int) + 1 := by omega
                              have hq4 : (q : Int) < (M : Int) + 1 := by omega
                              have hq5 : (q : Int) < (M : Int) := by omega
                              have hq6 : (0 : Int) ≤ (q : Int) + 1 := by omega
                              have hq7 : ((q : Int) + 1).toNat = q + 1 := by omega
                              have hq8 : IntKind.i64.wrap (q : Int) = (q : Int) := by rw [IntKind.wrap_i64]; omega
                              have hq9 : q < M := by omega
                              have hq10 : q < M + 1 := by omega
                              have hg : decide ((0 : Int) < (q : Int) + 1) = true := decide_eq_true (by omega)
                              have hIlt := hL4.its.lt
                              have HL4 := hide (And.intro hL4 hab)
                              clear hL4 hab hr
                              obtain ⟨P, hP⟩ : ∃ P, it' q = P := ⟨_, rfl⟩
                              rw [hP] at d0 d1 d2 d3 K8 HR
                              have HP := hide hP
                              clear hP
                              go_upto_region 28 with fail
                              go_cut [121] (fun x wx => x = .bool r ∧ L3 w0 wx (w.heap.size + 1) T (M + 1) cnt (insA it' ⟨keyF stp t j, t, j⟩ (q + 1)) w0.heap.size (n t * 20) (keyF stp t) (cnt t) j 3)
                              case first =>
                                go_region_held3 (fun W => W.cell? ⟨w.heap.size + 1, (q + 1) * 4, none⟩ = some (.int .u64 (keyF stp t j)) ∧ W.cell? ⟨w.heap.size + 1, (q + 1) * 4 + 1, none⟩ = some (.int .i64 t) ∧ W.cell? ⟨w.heap.size + 1, (q + 1) * 4 + 2, none⟩ = some (.int .i64 j) ∧ W.cell? ⟨w.heap.size + 1, (q + 1) * 4 + 3, none⟩ = some (.int .u32 (cnt t j)) ∧ W.cell? ⟨w.heap.size + 1, q * 4, none⟩ = some (.int .u64 P.k) ∧ W.cell? ⟨w.heap.size + 1, q * 4 + 1, none⟩ = some (.int .i64 P.s) ∧ W.cell? ⟨w.heap.size + 1, q * 4 + 2, none⟩ = some (.int .i64 P.i) ∧ W.cell? ⟨w.heap.size + 1, q * 4 + 3, none⟩ = some (.int .u32 (cnt P.s P.i)))
                                  (first | exact ⟨by assumption, by assumption, by assumption, by assumption, by assumption, by assumption, by assumption, by assumption⟩ | go_keep)
                                  (first | (go_at_call 8; refine K8.out.mono ?_; rintro e w1 ⟨rfl, hst⟩; have n0 := (hst.cell (p := ⟨w.heap.size + 1, (q + 1) * 4, none⟩) hIlt).trans c0; have n1 := (hst.cell (p := ⟨w.heap.size + 1, (q + 1) * 4 + 1, none⟩) hIlt).trans c1; have n2 := (hst.cell (p := ⟨w.heap.size + 1, (q + 1) * 4 + 2, none⟩) hIlt).trans c2; have n3 := (hst.cell (p := ⟨w.heap.size + 1, (q + 1) * 4 + 3, none⟩) hIlt).trans c3; have n4 := (hst.cell (p := ⟨w.heap.size + 1, q * 4, none⟩) hIlt).trans d0; have n5 := (hst.cell (p := ⟨w.heap.size + 1, q * 4 + 1, none⟩) hIlt).trans d1; have n6 := (hst.cell (p := ⟨w.heap.size + 1, q * 4 + 2, none⟩) hIlt).trans d2; have n7 := (hst.cell (p := ⟨w.heap.size + 1, q * 4 + 3, none⟩) hIlt).trans d3; have HST := hide hst; clear hst))
                                all_goals go_wp2
                                all_goals go_meet
                                all_goals exact ⟨rfl, HL4.out.1.later ⟨HST.out.os, HST.out.tape, HST.out.output, HST.out.size, HST.out.block⟩⟩
                              case rest =>
                                obtain ⟨rfl, hL5⟩ := hcut
                                clear K8 c0 c1 c2 c3 d0 d1 d2 d3
                                cases r with
                                | false =>
                                  have H5 := hide hL5
                                  clear hL5
                                  go_wp2
                                  go_roundg (n t - (j + 1))
                                  case measure => omega
                                  case rel =>
                                    obtain ⟨it2, r1, r2, r3, r4⟩ := its_done HL3.out.2.1 HMj.out hj (q := q + 1) (by omega) H5.out (Below.refl _ _) HL4.out.2 (.inr (by rw [Nat.add_sub_cancel, HP.out]; exact ltB_false.1 HR.out))
                                    exact ⟨j + 1, it2, by go_num, by omega, r1, r2, r3, r4⟩
                                | true =>
                                  have c0 := hL5.its.c0 (j := q + 1) (by omega)
                                  have c1 := hL5.its.c1 (j := q + 1) (by omega)
                                  have c2 := hL5.its.c2 (j := q + 1) (by omega)
                                  have c3 := hL5.its.c3 (j := q + 1) (by omega)
                                  have d0 := hL5.its.c0 (j := q) (by omega)
                                  have d1 := hL5.its.c1 (j := q) (by omega)
                                  have d2 := hL5.its.c2 (j := q) (by omega)
                                  have d3 := hL5.its.c3 (j := q) (by omega)
                                  rw [insA_at] at c0 c1 c2 c3
                                  rw [insA_lt _ _ _ _ (Nat.lt_succ_self q), HP.out] at d0 d1 d2 d3
                                  simp only at c0 c1 c2 c3
                                  have ff := hL5.its.free
                                  have hIlt' := hL5.its.lt
                                  have H5 := hide hL5
                                  clear hL5
                                  go_wp2
                                  go_roundg q
                                  case measure => omega
                                  case rel =>
                                    have e1 := H5.out.its.put (q + 1) P (by omega) (by omega)
                                    have e2 := e1.put q ⟨keyF stp t j, t, j⟩ (by omega) (by omega)
                                    rw [← HP.out, insA_step] at e2
                                    rw [HP.out] at e2
                                    have e3 := (H5.out.items (grown_trans (grown_putIt _ _ _ P (cnt P.s P.i)) (grown_putIt _ _ _ ⟨keyF stp t j, t, j⟩ (cnt t j))) e2).later ((Below.refl _ _).alloc (Nat.le_refl _) (.cells #[.int .u64 (keyF stp t j), .int .i64 t, .int .i64 j, .int .u32 (cnt t j)] 36))
                                    refine ⟨q, q, rfl, rfl, rfl, by omega, e3, fun y h1 h2 => ?_⟩
                                    by_cases e : y = q
                                    · rw [e, HP.out]; exact ltB_iff.1 HR.out
                                    · exact HL4.out.2 y (by omega) h2
            · obtain rfl : j = n t := by omega
              have hsx := hL3.grown.size
              have hSr : RowN wr w.heap.size (s * 10) 40 := HL.out.row.of_block (hL3.grown.block _ HL.out.row.lt (by simp))
              obtain ⟨x0, d0⟩ := Option.isSome_iff_exists.1 (hSr.some (j := t * 10) (by omega))
              obtain ⟨x1, d1⟩ := Option.isSome_iff_exists.1 (hSr.some (j := t * 10 + 1) (by omega))
              obtain ⟨x2, d2⟩ := Option.isSome_iff_exists.1 (hSr.some (j := t * 10 + 2) (by omega))
              obtain ⟨x3, d3⟩ := Option.isSome_iff_exists.1 (hSr.some (j := t * 10 + 3) (by omega))
              obtain ⟨x4, d4⟩ := Option.isSome_iff_exists.1 (hSr.some (j := t * 10 + 4) (by omega))
              obtain ⟨x5, d5⟩ := Option.isSome_iff_exists.1 (hSr.some (j := t * 10 + 5) (by omega))
              obtain ⟨x6, d6⟩ := Option.isSome_iff_exists.1 (hSr.some (j := t * 10 + 6) (by omega))
              obtain ⟨x7, d7⟩ := Option.isSome_iff_exists.1 (hSr.some (j := t * 10 + 7) (by omega))
              obtain ⟨x8, d8⟩ := Option.isSome_iff_exists.1 (hSr.some (j := t * 10 + 8) (by omega))
              obtain ⟨x9, d9⟩ := Option.isSome_iff_exists.1 (hSr.some (j := t * 10 + 9) (by omega))
              have ff := hSr.free
              have HL3 := hide (And.intro hL3 hIts)
              clear hL3 hIts hSr hsx
              go_wp2
              go_roundg (s - (t + 1))
              case measure => omega
              case rel =>
                exact ⟨t + 1, m + n t, updN DB t w0.heap.size, it', by go_num, by omega, rfl, by rw [HM.out]; rfl, HL.out.step HL3.out.1 hlt2 HL3.out.2 [.int .u32 0, .int .u32 0, .int .u64 0, .slice none 0 0, .slice none 0 0, .slice none 0 0, .int .u64 0, .int .u64 0, .int .u64 0, .slice (some ⟨w0.heap.size, 0, none⟩) (n t * 20) (n t * 20)] rfl rfl rfl rfl⟩
        · obtain rfl : t = s := by omega
          obtain rfl : m = T := hm.trans HT.out
          have HB := hide (partB w wr t m n DB stp cnt it HT.out ht hS (fun a b => HIn.out.hc a b) hL)
          clear hm hL
          go_upto_region 36 with fail
          refine HB.out _ _ _ _ _ _ _ _ _ _ _ _ _ _ _ _ _ _ _ _ _ _ _ _ _ _ _ _ _ _ _ _ _ _ _ _ _ _ _ _ _ _ _ _ _ _ _ _ _ _ _ _ _ _ _ _ _ _ _ _ _ _ _ _ _ _ _ _ _ _ _ _ _ _ _ _ _ _ _ _ _ _ _ _ _ _ _ _ _ _ _ _ _ _ _ _ _ _ _ _ _ _ _ _ _ _ _ _ _ _ _ _ _ _ _ _ _ _ _ _ _ _ _ _ _ _ _ _ _ _ _ _ _ _ _ _ _ _ _ _ _ _ _ _ _ _ _ _ _ _ _ _ _ _ _ _ _ _ _ _ _ _ _ _ _ _ _ _ _ _ _ _ _ _ _ _ _ _ _ _ _ _ _ _ _ _ _ _ _ _ _ _ _ _ _ _ _ _ _ _ _ _ _ _ _ _ _ _ _ _ _ _ _ _ _ _ _ _ _ _ _ _ _ _ _ _ _ _ _ _ _ _ _ _ _ _ _ _ _ _ _ _ _ _ _ _ _ _ _ _ _ _ _ _ _ _ _ _ _ _ _ _ _ _ _ _ _ _ _ _ _ _ _ _ _ _ _ _ _ _ _ _ _ _ ?_
          assumption
end Go.Proofs.Ybulkbbhy.Mg
