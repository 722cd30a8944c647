/-
  THE WALK of consentry.LawS2622BVote (3): the ballots (from region 24 on).
-/
import Derived.Test.YbulkbbgwVoN
namespace Go.Proofs.Ybulkbbgw.Vo
open Go.RowKit

/-- The code from region 24 on: that region, and what follows it. -/
def split24 : Code → Option (Code × Code)
  | .seq (.region 24 ops b) r => some (.region 24 ops b, r)
  | .seq a r => match split24 a with
    | some x => some x
    | none => split24 r
  | .block _ c => split24 c
  | .scope c => split24 c
  | .cond _ a b => match split24 a with
    | some x => some x
    | none => split24 b
  | _ => none
noncomputable def pairV : Code × Code := (Yba.f3.body.bind split24).getD (.skip, .skip)
theorem Yba.info38 : (Yba.prog.info? 38).map (fun i => (i.zero, i.size, i.bytes)) = some (some (.slice none 0 0), 1, 24) := by kernel_rfl
/-- A slice that came in. -/
def InS (w : World) (a : Option Addr) (n : Nat) (f : Nat → Value) : Prop := n ≤ maxLen ∧ (0 < n → ∃ b o, a = some ⟨b, o, none⟩ ∧ b < w.heap.size ∧ ∀ i, i < n → w.cell? ⟨b, o + i, none⟩ = some (f i))
theorem BS.start (w3 : World) (N C : Nat) :
    BS ((w3.alloc (.cells (madeCells #[.slice none 0 0] N) 38)).alloc (.cells (madeCells #[.int .i64 0, .bool false] (N * 2)) 49)) ((w3.alloc (.cells (madeCells #[.slice none 0 0] N) 38)).alloc (.cells (madeCells #[.int .i64 0, .bool false] (N * 2)) 49)) N C w3.heap.size (w3.heap.size + 1) 0 (fun _ => 0) (fun _ _ => ⟨0, false⟩) (fun _ => ⟨0, false⟩) := by
  refine ⟨GB.refl _ _, ⟨_, (World.rowIs_made w3 (.slice none 0 0) N 38).alloc _, fun n hn => by omega⟩, fun n hn => by omega, ?_, by omega, by simp; omega⟩
  have h := KRow.made (w3.alloc (.cells (madeCells #[.slice none 0 0] N) 38)) N
  simpa using h

theorem below_w {w w1 w3 w4 w0 : World} {N C nb vb pb rb eb cb ib lb sb bb kb m : Nat} {nm : Nat → ByteArray} {st cl : Nat → Int} {inn : Nat → Bool} {bl : Nat → Nat} {bal : Nat → Nat → Rp} {ctr : Nat → Rp}
    (hP : PS w w1 C nb vb pb nm) (hQ : QS w1 w3 N C pb rb eb cb ib lb sb st cl inn) (h34 : Below w3.heap.size w3 w4) (hbb : w3.heap.size ≤ bb) (hkb : w3.heap.size ≤ kb) (hB : BS w4 w0 N C bb kb m bl bal ctr) : Below w.heap.size w w0 := by
  have z1 := hP.below.size
  have z2 := hQ.below.size
  have z3 := h34.size
  exact hB.gb.to_below ((hP.below.trans (hQ.below.mono z1)).trans (h34.mono (by omega))) (by omega) (fun b hb => by simp at hb; omega)
theorem InS.at {w w0 : World} {a : Option Addr} {n k : Nat} {f : Nat → Value} (h : InS w a n f) (hk : k < n) (hb : Below w.heap.size w w0) : ∃ b o, a = some ⟨b, o, none⟩ ∧ w0.cell? ⟨b, o + k, none⟩ = some (f k) := by
  obtain ⟨b, o, e, hl, hc⟩ := h.2 (by omega)
  exact ⟨b, o, e, (hb.cell (p := ⟨b, o + k, none⟩) hl).trans (hc k hk)⟩

set_option maxRecDepth 1000000 in
set_option maxHeartbeats 40000000 in
theorem partV (w w1 w3 : World) (N C nb vb pb rb eb cb ib lb sb : Nat) (nm : Nat → ByteArray) (st : Nat → Int) (inn : Nat → Bool) (hN3 : 1 ≤ N) (hN : N ≤ 8) (hC : 1 ≤ C) (hC4 : C ≤ 4) (hP : PS w w1 C nb vb pb nm) (hQ : QS w1 w3 N C pb rb eb cb ib lb sb st st inn)
    (a3 a4 a5 : Option Addr) (n3 n4 n5 k3 k4 k5 : Nat) (x3 x4 : Nat → Int) (x5 : Nat → Bool) (h3 : InS w a3 n3 (fun i => .int .u8 (x3 i))) (h4 : InS w a4 n4 (fun i => .int .i8 (x4 i))) (h5 : InS w a5 n5 (fun i => .bool (x5 i))) (hx3 : ∀ i, 0 ≤ x3 i ∧ x3 i ≤ 255) (hx4 : ∀ i, -128 ≤ x4 i ∧ x4 i ≤ 127)
    (c0 c1 c2 c6 c7 c8 c9 c10 c11 c12 c13 c14 c18 c19 c20 c23 c24 c25 c26 c27 c28 c29 c30 c31 c32 c33 c34 c35 c36 c37 c38 c39 c40 c41 c42 c43 c44 c45 c46 c47 c48 c49 c50 c51 c52 c53 c54 c55 c56 c57 c58 c59 c60 c61 c62 c63 c64 c65 c66 c67 c68 c69 c70 c71 c72 c73 c74 c75 c76 c77 c78 c79 c80 c81 c82 c83 c84 c85 c86 c87 c88 c89 c90 c91 c92 c93 c94 c95 c96 c97 c98 c99 c100 c101 c102 c103 c104 c105 c106 c107 c108 c109 c110 c111 c112 c113 c114 c115 c116 c117 c118 c119 c120 c121 c122 c123 c124 c125 c126 c127 c128 c129 c130 c131 c132 c133 c134 c135 c136 c137 c138 c139 c140 c141 c142 c143 c144 c145 c146 c147 c148 c149 c150 c151 c152 c153 c154 c155 c156 c157 c158 c159 c160 c161 c162 c163 c164 c165 c166 c167 c168 c169 c170 c171 c172 c173 c174 c175 c176 c177 c178 c179 c180 c181 c182 c183 c184 c185 c186 c187 c188 c189 c190 c191 c192 c193 c194 c195 c196 c197 c198 c199 c200 c201 c202 c203 c204 c205 c206 c207 c208 c209 c210 c211 c212 c213 c214 c215 c216 c217 c218 c219 c220 c221 c222 c223 c224 c225 c226 c227 c228 c229 c230 c231 c232 c233 c234 c235 c236 c237 c238 c239 c240 c241 c242 c243 c244 c245 c246 c247 c248 c249 c250 c251 c252 c253 c254 c255 c256 c257 c258 c259 c260 c261 c262 c263 c264 c265 c266 c267 c268 c269 c270 c271 c272 c273 c274 c275 c276 c277 c278 c279 c280 c281 c282 c283 c284 c285 c286 c287 c288 c289 c290 c291 c292 c293 c294 c295 c296 c297 c298 c299 c300 c301 c302 c303 c304 c305 c306 c307 c308 c309 c310 c311 c312 c313 c314 c315 c316 c317 c318 c319 c320 c321 c322 c323 c324 c325 c326 c327 c328 c329 c330 c331 c332 c333 c334 c335 c336 c337 c338 c339 c340 c341 c342 c343 c344 c345 c346 c347 c348 c349 c350 c351 c352 c353 c354 c355 c356 c357 c358 c359 c360 c361 c362 c363 c364 c365 c366 c367 c368 c369 c370 c371 c372 c373 c374 c375 c376 c377 c378 c379 c380 c381 c382 c383 c384 c385 : Value) (K : Act → World → Prop)
    (hK : ∀ a v, Code.wp Yba.prog pairV.2 (bodyPost Yba.prog Yba.f3 fun e w' => e = .returned (.bool true) ∧ Below w.heap.size w w') a v → K a v) :
    Code.wp Yba.prog pairV.1 (Exit.then K (bodyPost Yba.prog Yba.f3 fun e w' => e = .returned (.bool true) ∧ Below w.heap.size w w')) ⟨#[c0, c1, c2, .slice a3 n3 k3, .slice a4 n4 k4, .slice a5 n5 k5, c6, c7, c8, c9, c10, c11, c12, c13, c14, .int .i64 N, .int .i64 C, .slice (some ⟨nb, 0, none⟩) (C + 1) 5, c18, c19, c20, .pointer (some ⟨rb, 0, none⟩), .slice (some ⟨sb, 0, none⟩) (C + 1) (C + 1), c23, c24, c25, c26, c27, c28, c29, c30, c31, c32, c33, c34, c35, c36, c37, c38, c39, c40, c41, c42, c43, c44, c45, c46, c47, c48, c49, c50, c51, c52, c53, c54, c55, c56, c57, c58, c59, c60, c61, c62, c63, c64, c65, c66, c67, c68, c69, c70, c71, c72, c73, c74, c75, c76, c77, c78, c79, c80, c81, c82, c83, c84, c85, c86, c87, c88, c89, c90, c91, c92, c93, c94, c95, c96, c97, c98, c99, c100, c101, c102, c103, c104, c105, c106, c107, c108, c109, c110, c111, c112, c113, c114, c115, c116, c117, c118, c119, c120, c121, c122, c123, c124, c125, c126, c127, c128, c129, c130, c131, c132, c133, c134, c135, c136, c137, c138, c139, c140, c141, c142, c143, c144, c145, c146, c147, c148, c149, c150, c151, c152, c153, c154, c155, c156, c157, c158, c159, c160, c161, c162, c163, c164, c165, c166, c167, c168, c169, c170, c171, c172, c173, c174, c175, c176, c177, c178, c179, c180, c181, c182, c183, c184, c185, c186, c187, c188, c189, c190, c191, c192, c193, c194, c195, c196, c197, c198, c199, c200, c201, c202, c203, c204, c205, c206, c207, c208, c209, c210, c211, c212, c213, c214, c215, c216, c217, c218, c219, c220, c221, c222, c223, c224, c225, c226, c227, c228, c229, c230, c231, c232, c233, c234, c235, c236, c237, c238, c239, c240, c241, c242, c243, c244, c245, c246, c247, c248, c249, c250, c251, c252, c253, c254, c255, c256, c257, c258, c259, c260, c261, c262, c263, c264, c265, c266, c267, c268, c269, c270, c271, c272, c273, c274, c275, c276, c277, c278, c279, c280, c281, c282, c283, c284, c285, c286, c287, c288, c289, c290, c291, c292, c293, c294, c295, c296, c297, c298, c299, c300, c301, c302, c303, c304, c305, c306, c307, c308, c309, c310, c311, c312, c313, c314, c315, c316, c317, c318, c319, c320, c321, c322, c323, c324, c325, c326, c327, c328, c329, c330, c331, c332, c333, c334, c335, c336, c337, c338, c339, c340, c341, c342, c343, c344, c345, c346, c347, c348, c349, c350, c351, c352, c353, c354, c355, c356, c357, c358, c359, c360, c361, c362, c363, c364, c365, c366, c367, c368, c369, c370, c371, c372, c373, c374, c375, c376, c377, c378, c379, c380, c381, c382, c383, c384, c385], []⟩ w3 := by
  conv => arg 2; whnf
  conv at hK => enter [a, v, 1, 2]; whnf
  have km47 := run_make_gen (P := Yba.prog) 47 38 (.slice none 0 0) 24 Yba.underlying47 Yba.info38 rfl N N (Nat.le_refl _) (by omega) (by omega)
  have km38 := run_make49 N N (Nat.le_refl _) (by omega)
  have HW := hide (And.intro hP (And.intro hQ (And.intro h3 (And.intro h4 (And.intro h5 (And.intro hx3 hx4))))))
  have m3 : n3 ≤ maxLen := h3.1
  have m4 : n4 ≤ maxLen := h4.1
  have m5 : n5 ≤ maxLen := h5.1
  unfold maxLen at m3 m4 m5
  clear hP hQ h3 h4 h5 hx3 hx4
  go_upto_region 27 with fail
  clear km47 km38
  have hB0 := hide (BS.start w3 N C)
  have h34 := ((Below.refl _ w3).alloc (Nat.le_refl _) (.cells (madeCells #[.slice none 0 0] N) 38)).alloc (by simp) (.cells (madeCells #[.int .i64 0, .bool false] (N * 2)) 49)
  generalize (w3.alloc (.cells (madeCells #[.slice none 0 0] N) 38)).alloc (.cells (madeCells #[.int .i64 0, .bool false] (N * 2)) 49) = w4 at hB0 h34 ⊢
  have hkb : w3.heap.size ≤ w3.heap.size + 1 := Nat.le_succ _
  generalize w3.heap.size + 1 = kb at hB0 hkb ⊢
  obtain ⟨bb, hbb⟩ : ∃ bb, w3.heap.size = bb := ⟨_, rfl⟩
  rw [hbb] at hB0 ⊢
  have HK := hide (And.intro h34 (And.intro (Nat.le_of_eq hbb) hkb))
  clear h34 hbb hkb
  go_loopg [27] N (fun gk y wr => ∃ (n : Nat) (bl : Nat → Nat) (bal : Nat → Nat → Rp) (ctr : Nat → Rp), y = .int .i64 n ∧ gk + n = N ∧ BS w4 wr N C bb kb n bl bal ctr)
  case atStart => exact ⟨0, _, _, _, rfl, by omega, hB0.out⟩
  case round =>
    clear hB0
    obtain ⟨n, bl, bal, ctr, rfl, hgk, hB⟩ := hrel
    by_cases hn : n < N
    · have hqn : (n : Int) < (N : Int) := by omega
      have HB := hide hB
      clear hB
      obtain ⟨w0, hw0⟩ : ∃ w0, w0 = wr := ⟨_, rfl⟩
      subst hw0
      have kmC := run_make49 C C (Nat.le_refl _) (by omega)
      go_upto_region 31 with fail
      clear kmC
      have h9 := hide (And.intro ((Below.refl _ w0).alloc (Nat.le_refl _) (.cells (madeCells #[.int .i64 0, .bool false] (C * 2)) 49)) (KRow.made w0 C))
      generalize w0.alloc (.cells (madeCells #[.int .i64 0, .bool false] (C * 2)) 49) = w9 at h9 ⊢
      obtain ⟨q, hq⟩ : ∃ q, w0.heap.size = q := ⟨_, rfl⟩
      rw [hq] at h9 ⊢
      have HQ := hide hq
      clear hq
      go_loopg [29] C (fun gk y wx => ∃ (i : Nat) (f : Nat → Rp), y = .int .i64 i ∧ gk + i = C ∧ Below q w0 wx ∧ KRow wx q C f)
      case atStart => exact ⟨0, _, rfl, by omega, h9.out⟩
      case round =>
        clear h9
        obtain ⟨i, f, rfl, hgk2, hb, hR⟩ := hrel
        have hbw : Below w.heap.size w wr := (below_w HW.out.1 HW.out.2.1 HK.out.1 HK.out.2.1 HK.out.2.2 HB.out).trans (hb.mono (by rw [← HQ.out]; exact (below_w HW.out.1 HW.out.2.1 HK.out.1 HK.out.2.1 HK.out.2.2 HB.out).size))
        by_cases hi : i < C
        · have hqi : (i : Int) < (C : Int) := by omega
          have HM := hide (And.intro hb (And.intro hR hbw))
          clear hb hR hbw
          go_upto_region 33 with fail
          go_cut [30] (fun x wx => ∃ k : Nat, x = .int .i64 k ∧ k ≤ 1000 ∧ wr = wx)
          case first =>
            obtain ⟨p, hp⟩ : ∃ p, n * C = p := ⟨_, rfl⟩
            have hp8 : p ≤ 8 * 4 := by rw [← hp]; exact Nat.mul_le_mul (by omega) hC4
            have hpi : (n : Int) * (C : Int) = (p : Int) := by rw [← hp]; simp
            go_wp2
            go_meet
            case rel => exact ⟨p + i, by go_num, by omega, rfl⟩
          case rest =>
            obtain ⟨k, rfl, hk, rfl⟩ := hcut
            go_upto_if 167 with fail
            go_cut [31] (fun x wx => ∃ v : Int, x = .int .i64 v ∧ wr = wx)
            case first =>
              by_cases hk4 : k < n4
              · obtain ⟨b4, o4, rfl, d4⟩ := HW.out.2.2.2.1.at hk4 HM.out.2.2
                have hq4 : (k : Int) < (n4 : Int) := by omega
                have hx4 := HW.out.2.2.2.2.2.2 k
                generalize x4 k = xv at d4 hx4
                go_wp2
                go_meet
                case rel => exact ⟨_, rfl, rfl⟩
              · have hq4 : ¬ (k : Int) < (n4 : Int) := by omega
                go_wp2
                go_meet
                case rel => exact ⟨_, rfl, rfl⟩
            case rest =>
              obtain ⟨v, rfl, rfl⟩ := hcut
              go_upto_region 37 with fail
              go_cut [183] (fun x wx => ∃ bv : Bool, x = .bool bv ∧ wr = wx)
              case first =>
                by_cases hk5 : k < n5
                · obtain ⟨b5, o5, rfl, d5⟩ := HW.out.2.2.2.2.1.at hk5 HM.out.2.2
                  have hq5 : (k : Int) < (n5 : Int) := by omega
                  generalize x5 k = xv at d5
                  go_wp2
                  go_meet
                  case rel => exact ⟨_, rfl, rfl⟩
                · have hq5 : ¬ (k : Int) < (n5 : Int) := by omega
                  go_wp2
                  go_meet
                  case rel => exact ⟨_, rfl, rfl⟩
              case rest =>
                obtain ⟨bv, rfl, rfl⟩ := hcut
                obtain ⟨d0, d1⟩ := HM.out.2.1.at i hi
                have ff := HM.out.2.1.free
                have hql := HM.out.2.1.lt
                cases bv with
                | true =>
                  go_wp2
                  go_roundg (C - (i + 1))
                  case measure => omega
                  case rel => exact ⟨i + 1, upd f i ⟨0, false⟩, by go_num, by omega, (HM.out.1.setCell (p := ⟨q, i * 2, none⟩) (Nat.le_refl _) _).setCell (p := ⟨q, i * 2 + 1, none⟩) (Nat.le_refl _) _, HM.out.2.1.set i hi ⟨0, false⟩⟩
                | false =>
                  go_wp2_with (go_at_call 5; refine (reading_any _ _).mono ?_; rintro e w' ⟨rfl, rfl⟩)
                  go_roundg (C - (i + 1))
                  case measure => omega
                  case rel => exact ⟨i + 1, upd f i ⟨v, true⟩, by go_num, by omega, ((HM.out.1.setCell (p := ⟨q, i * 2, none⟩) (Nat.le_refl _) _).setCell (p := ⟨q, i * 2 + 1, none⟩) (Nat.le_refl _) _).alloc (by simp; exact Nat.le_of_lt hql) _, (HM.out.2.1.set i hi ⟨v, true⟩).of_block (Below.heap_alloc _ _ _ (by simp; exact hql))⟩
        · have hqi : ¬ (i : Int) < (C : Int) := by omega
          have hBx := HB.out.later (by rw [HQ.out]; exact hb)
          have hgq : w4.heap.size ≤ q := by rw [← HQ.out]; exact HB.out.gb.size
          have HM := hide (And.intro hBx (And.intro hR (And.intro hgq hbw)))
          obtain ⟨bv, v1, v2⟩ := hBx.ba
          have d0 := v1.cell hn
          have d1 := v1.frozen n
          clear hBx hR hb hgq v1 v2 hbw
          go_upto_region 40 with fail
          go_cut [] (fun wx => BS w4 wx N C bb kb (n + 1) (upd bl n q) (upd bal n f) ctr ∧ Below w.heap.size w wx)
          case first =>
            go_wp2
            go_meet
            case rel =>
              have h0 := HM.out.1.setB HM.out.2.1 HM.out.2.2.1
              exact ⟨h0, below_w HW.out.1 HW.out.2.1 HK.out.1 HK.out.2.1 HK.out.2.2 h0⟩
          case rest =>
            clear HM d0 d1
            obtain ⟨hB, hbw⟩ := hcut
            obtain ⟨e0, e1⟩ := hB.kr.at n hn
            have ff := hB.kr.free
            have hkl := hB.kr.lt
            have HM := hide hB
            clear hB hbw
            go_upto_region 41 with fail
            go_cut [] (fun wx => BS w4 wx N C bb kb (n + 1) (upd bl n q) (upd bal n f) (upd ctr n ⟨1, true⟩) ∧ Below w.heap.size w wx)
            case first =>
              go_wp2_with (go_at_call 5; refine (reading_any _ _).mono ?_; rintro e w' ⟨rfl, rfl⟩)
              go_meet
              case rel =>
                have h0 := (HM.out.setK n hn ⟨1, true⟩).later ((Below.refl _ _).alloc (Nat.le_refl _) (.cells #[.int .i64 1, .bool true] 49))
                exact ⟨h0, below_w HW.out.1 HW.out.2.1 HK.out.1 HK.out.2.1 HK.out.2.2 h0⟩
            case rest =>
              clear HM e0 e1 ff hkl
              obtain ⟨hB, hbw⟩ := hcut
              by_cases hk3 : n < n3
              · obtain ⟨b3, o3, rfl, d3⟩ := HW.out.2.2.1.at hk3 hbw
                have hq3 : (n : Int) < (n3 : Int) := by omega
                have hx3 := HW.out.2.2.2.2.2.1 n
                generalize x3 n = xv at d3 hx3
                obtain ⟨e0, e1⟩ := hB.kr.at n hn
                have ff := hB.kr.free
                have hkl := hB.kr.lt
                have HM := hide hB
                clear hB hbw
                cases r1 : (xv % 3 == 1) with
                | true =>
                  go_wp2_with (go_at_call 5; refine (reading_any _ _).mono ?_; rintro e w' ⟨rfl, rfl⟩)
                  go_roundg (N - (n + 1))
                  case measure => omega
                  case rel => exact ⟨n + 1, _, _, _, by go_num, by omega, (HM.out.setK n hn ⟨2, true⟩).later ((Below.refl _ _).alloc (Nat.le_refl _) (.cells #[.int .i64 2, .bool true] 49))⟩
                | false =>
                  cases r2 : (xv % 3 == 2) with
                  | true =>
                    go_wp2
                    go_roundg (N - (n + 1))
                    case measure => omega
                    case rel => exact ⟨n + 1, _, _, _, by go_num, by omega, HM.out.setK n hn ⟨0, false⟩⟩
                  | false =>
                    go_wp2
                    go_roundg (N - (n + 1))
                    case measure => omega
                    case rel => exact ⟨n + 1, _, _, _, by go_num, by omega, HM.out⟩
              · have hq3 : ¬ (n : Int) < (n3 : Int) := by omega
                have HM := hide hB
                clear hB hbw
                go_wp2
                go_roundg (N - (n + 1))
                case measure => omega
                case rel => exact ⟨n + 1, _, _, _, by go_num, by omega, HM.out⟩
    · obtain rfl : n = N := by omega
      have hA := hide (all_of HW.out.1 HW.out.2.1 HK.out.1 HK.out.2.1 HK.out.2.2 hB)
      clear hB
      have km25 : ∀ w, (Instr.makeSlice 25 (.int .i64 1) (.int .i64 8)).run Yba.prog w = .ok (.slice (some ⟨w.heap.size, 0, none⟩) 1 8) (w.alloc (.cells (madeCells #[.string ⟨#[]⟩] 8) 9)) := run_make_gen (P := Yba.prog) 25 9 (.string ⟨#[]⟩) 16 Yba.underlying25 Yba.info9 rfl 1 8 (by omega) (by omega) (by omega)
      have hb9 : (wr.alloc (.cells (madeCells #[.string ⟨#[]⟩] 8) 9)).heap[wr.heap.size]? = some (.cells (madeCells #[.string ⟨#[]⟩] 8) 9 (0, 0)) := heap_alloc_new _ _
      have d9 : (wr.alloc (.cells (madeCells #[.string ⟨#[]⟩] 8) 9)).cell? ⟨wr.heap.size, 0, none⟩ = some (.string ⟨#[]⟩) := (cell_of_row _ _ _ _ _ _ hb9).trans (by simp [madeCells])
      have f9 : (wr.alloc (.cells (madeCells #[.string ⟨#[]⟩] 8) 9)).frozen? ⟨wr.heap.size, 0, none⟩ = false := frozen_of_row _ _ _ _ _ hb9
      clear hb9
      go_upto_region 50 with fail
      clear km25 d9 f9
      generalize hw5 : wr.alloc (.cells ((madeCells #[.string ⟨#[]⟩] 8).setIfInBounds 0 (.string ⟨#[112, 114, 101]⟩)) 9) = w5
      have hA5 : All w w5 n C nb vb pb rb eb cb ib lb sb bb kb wr.heap.size nm st inn bl bal ctr := by rw [← hw5]; exact hA.out
      clear hw5 hA
      generalize wr.heap.size = fb at hA5 ⊢
      have K6 := hide (vote_any n C rb pb eb cb lb fb nb 5 vb (C + 1) ib bb kb bl inn ctr bal nm preS st w5 hN hC hC4 (Nat.le_refl _) hA5.im hA5.vm)
      have HA := hide hA5
      clear hA5
      go_upto_region 51 with (go_at_call 6; refine K6.out.mono ?_; rintro e w6 ⟨w7, dv, l, rfl, hb6, hV6⟩; have H6 := hide (And.intro hb6 hV6); clear hb6 hV6)
      have HC := hide (partC w w7 w6 n C rb pb eb cb lb fb nb 5 vb (C + 1) ib bb kb sb bl inn ctr bal nm st dv l hN3 hN hC hC4 (all_after HA.out H6.out.1 H6.out.2).1 (all_after HA.out H6.out.1 H6.out.2).2.1 H6.out.2 (all_after HA.out H6.out.1 H6.out.2).2.2)
      refine HC.out _ _ _ _ _ _ _ _ _ _ _ _ _ _ _ _ _ _ _ _ _ _ _ _ _ _ _ _ _ _ _ _ _ _ _ _ _ _ _ _ _ _ _ _ _ _ _ _ _ _ _ _ _ _ _ _ _ _ _ _ _ _ _ _ _ _ _ _ _ _ _ _ _ _ _ _ _ _ _ _ _ _ _ _ _ _ _ _ _ _ _ _ _ _ _ _ _ _ _ _ _ _ _ _ _ _ _ _ _ _ _ _ _ _ _ _ _ _ _ _ _ _ _ _ _ _ _ _ _ _ _ _ _ _ _ _ _ _ _ _ _ _ _ _ _ _ _ _ _ _ _ _ _ _ _ _ _ _ _ _ _ _ _ _ _ _ _ _ _ _ _ _ _ _ _ _ _ _ _ _ _ _ _ _ _ _ _ _ _ _ _ _ _ _ _ _ _ _ _ _ _ _ _ _ _ _ _ _ _ _ _ _ _ _ _ _ _ _ _ _ _ _ _ _ _ _ _ _ _ _ _ _ _ _ _ _ _ _ _ _ _ _ _ _ _ _ _ _ _ _ _ _ _ _ _ _ _ _ _ _ _ _ _ _ _ _ _ _ _ _ _ _ _ _ _ _ _ _ _ _ _ _ _ _ _ _ _ _ _ _ _ _ _ _ _ _ _ _ _ _ _ _ _ _ _ _ _ _ _ _ _ _ _ _ _ _ _ _ _ _ _ _ _ _ _ _ _ _ _ _ _ _ _ _ _ _ _ _ _ _ _ _ _ _ _ _ _ _ _ _ _ _ _ _ _ _ _ _ _ _ _ _ _ _ _ _ _ _ _ _ _ _ _ _ _ _ _ _ _ ?_
      assumption

end Go.Proofs.Ybulkbbgw.Vo
