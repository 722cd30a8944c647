/-
  THE WALK of consentry.LawS2622BVote (3): its second half, the vote restated.
-/
import Derived.Test.YbulkbbgwVoL
namespace Go.Proofs.Ybulkbbgw.Vo
open Go.RowKit
attribute [local go_sem ↓] app_g

/-- The code from region 51 on: that region, and what follows it. -/
def split51 : Code → Option (Code × Code)
  | .seq (.region 51 ops b) r => some (.region 51 ops b, r)
  | .seq a r => match split51 a with
    | some x => some x
    | none => split51 r
  | .block _ c => split51 c
  | .scope c => split51 c
  | .cond _ a b => match split51 a with
    | some x => some x
    | none => split51 b
  | _ => none
noncomputable def pairC : Code × Code := (Yba.f3.body.bind split51).getD (.skip, .skip)
def preS : ByteArray := ⟨#[112, 114, 101]⟩
theorem run_make49 (l c : Nat) (hlc : l ≤ c) (hc : c ≤ 100) (w : World) :
    (Instr.makeSlice 38 (.int .i64 (l : Int)) (.int .i64 (c : Int))).run Yba.prog w = .ok (.slice (some ⟨w.heap.size, 0, none⟩) l c) (w.alloc (.cells (madeCells #[.int .i64 0, .bool false] (c * 2)) 49)) := by
  obtain ⟨i, hi, hz, hs, hbb⟩ := info_parts Yba.info49
  have hr := run_make (P := Yba.prog) w 38 49 i _ Yba.underlying38 hi hz .i64 .i64 l c (by omega) (by omega) (by rw [hbb]; omega) (by omega)
  simp only [Int.toNat_natCast, hs] at hr
  exact hr
theorem LS.start {w5 w6 : World} {N C ecb : Nat} {start : Nat → Int} (hb6 : Below (w5.alloc (.cells #[.string preS] 9)).heap.size (w5.alloc (.cells #[.string preS] 9)) w6) (hge : (w5.alloc (.cells #[.string preS] 9)).heap.size ≤ ecb) (hr : RowGe w6 ecb 2 (C + 1) (fun c => .int .i64 (start c))) :
    LS w5 (w6.alloc (.cells (madeCells #[.bool false] N) 4)) N C ecb w6.heap.size (.slice (some ⟨w5.heap.size, 0, none⟩) 1 1) [preS] start (fun _ => false) := by
  have hs := hb6.size
  simp at hs hge
  have hbA : Below w5.heap.size w5 w6 := ((Below.refl _ w5).alloc (Nat.le_refl _) _).trans (hb6.mono (by simp))
  have ho : (w5.alloc (.cells #[.string preS] 9)).ownsRow w5.heap.size 9 1 (.slice (some ⟨w5.heap.size, 0, none⟩) 1 1) 1 [.string preS] := ⟨by simp, .inr ⟨w5.heap.size, 1, _, rfl, Nat.le_refl _, heap_alloc_new _ _, Nat.le_refl _, by unfold maxLen; omega, by simp, by simp⟩⟩
  refine ⟨hbA.alloc (by omega) _, ?_, hr.of_block (Below.heap_alloc _ _ _ hr.lt), World.rowIs_made _ _ _ _, ⟨by omega, by omega⟩⟩
  exact (ho.kept (row := none) ⟨hb6.os, hb6.tape, hb6.output, hb6.size, fun k hk _ => hb6.block k hk⟩ (.inr (by simp [Value.ownBlock]))).alloc _
theorem loop7_start {w5 wr : World} {N' C ecb elb : Nat} {efv : Value} {fl : List ByteArray} {cellv : Nat → Int} {lostv : Nat → Bool} (h : LS w5 wr N' C ecb elb efv fl cellv lostv) (N : Nat) :
    LS w5 ((wr.alloc (.cells (madeCells #[.int .i64 0, .bool false] (N * 2)) 49)).alloc (.cells (madeCells #[.int .i64 0] N) 3)) N' C ecb elb efv fl cellv lostv ∧ RRow ((wr.alloc (.cells (madeCells #[.int .i64 0, .bool false] (N * 2)) 49)).alloc (.cells (madeCells #[.int .i64 0] N) 3)) wr.heap.size N [] ∧ ORow ((wr.alloc (.cells (madeCells #[.int .i64 0, .bool false] (N * 2)) 49)).alloc (.cells (madeCells #[.int .i64 0] N) 3)) (wr.heap.size + 1) N [] := by
  refine ⟨h.later (((Below.refl _ wr).alloc (Nat.le_refl _) _).alloc (by simp) _), ⟨_, (Below.heap_alloc _ _ _ (by simp)).trans (heap_alloc_new _ _), size_madeCells _ _, fun x r hx => by simp at hx⟩, ⟨madeCells #[.int .i64 0] N, ?_, size_madeCells _ _, fun x n hx => by simp at hx⟩⟩
  have := heap_alloc_new (wr.alloc (.cells (madeCells #[.int .i64 0, .bool false] (N * 2)) 49)) (.cells (madeCells #[.int .i64 0] N) 3)
  simpa using this
theorem grown_set2 (w : World) (b o1 o2 : Nat) (u v : Value) : w.grownBy ((w.setCell ⟨b, o1, none⟩ u).setCell ⟨b, o2, none⟩ v) (some b) := grown_trans (grown_set _ _ _ _) (grown_set _ _ _ _)
theorem RpBlk.tag {w : World} {b : Nat} {r : Rp} (h : RpBlk w b r) : Tag w b 49 := ⟨_, h⟩
theorem run_room49 {w : World} {b N : Nat} {l : List Rp} (h : RRow w b N l) (hl : l.length < N) (r : Rp) :
    (appG #[38, 38] 38 #[.slice (some ⟨b, 0, none⟩) l.length N, .slice (some ⟨w.heap.size, 0, none⟩) 1 1]).run Yba.prog (w.alloc (.cells #[.int .i64 r.v, .bool r.p] 49)) = .ok (.slice (some ⟨b, 0, none⟩) (l.length + 1) N) (((w.alloc (.cells #[.int .i64 r.v, .bool r.p] 49)).setCell ⟨b, l.length * 2, none⟩ (.int .i64 r.v)).setCell ⟨b, l.length * 2 + 1, none⟩ (.bool r.p)) := by
  obtain ⟨i0, hi, -, hz1, -⟩ := info_parts Yba.info49
  have hA : RRow (w.alloc (.cells #[.int .i64 r.v, .bool r.p] 49)) b N l := h.of_block (Below.heap_alloc _ _ _ h.tag.lt)
  have := run_append_room_cells (P := Yba.prog) (w.alloc (.cells #[.int .i64 r.v, .bool r.p] 49)) 38 38 49 i0 Yba.underlying38 hi b 0 l.length N ⟨w.heap.size, 0, none⟩ 1 1 [.int .i64 r.v, .bool r.p] (by rw [hz1]; rfl) (World.news_of_block (heap_alloc_new _ _)) (by intro u hu; simp at hu; rcases hu with rfl | rfl <;> rfl) (by omega)
    (by intro j hj; rw [hz1]; simp at hj; exact hA.some (by omega)) (by intro j hj; exact hA.free _)
  rw [hz1, Nat.zero_add] at this
  exact this
theorem run_room3 {w : World} {b N : Nat} {l : List Nat} (h : ORow w b N l) (hl : l.length < N) (n : Nat) :
    (appG #[43, 43] 43 #[.slice (some ⟨b, 0, none⟩) l.length N, .slice (some ⟨w.heap.size, 0, none⟩) 1 1]).run Yba.prog (w.alloc (.cells #[.int .i64 n] 3)) = .ok (.slice (some ⟨b, 0, none⟩) (l.length + 1) N) ((w.alloc (.cells #[.int .i64 n] 3)).setCell ⟨b, l.length, none⟩ (.int .i64 n)) := by
  obtain ⟨i0, hi, -, hz1, -⟩ := info_parts Yba.info3
  have hA : ORow (w.alloc (.cells #[.int .i64 n] 3)) b N l := h.of_block (Below.heap_alloc _ _ _ h.tag.lt)
  have := run_append_room_cells (P := Yba.prog) (w.alloc (.cells #[.int .i64 n] 3)) 43 43 3 i0 Yba.underlying43 hi b 0 l.length N ⟨w.heap.size, 0, none⟩ 1 1 [.int .i64 n] (by rw [hz1]; rfl) (World.news_of_block (heap_alloc_new _ _)) (by intro u hu; simp at hu; subst hu; rfl) (by omega)
    (by intro j hj; rw [hz1]; simp at hj; exact hA.some (by omega)) (by intro j hj; exact hA.free _)
  rw [hz1, Nat.zero_add, Nat.mul_one] at this
  exact this
theorem owns_slice9 {w : World} {base n : Nat} {v : Value} {xs : List Value} (ho : w.ownsRow base 9 1 v n xs) : ∃ a cap, v = .slice a n cap ∧ n ≤ cap := by
  obtain ⟨hl, ⟨hv, h0⟩ | ⟨g', cap', cur, hv, hb, hh, h1, h2, h3, h4⟩⟩ := ho
  · exact ⟨none, 0, by rw [hv, h0], by omega⟩
  · exact ⟨_, cap', hv, h1⟩
theorem fail_step {w5 wr w1 : World} {N C ecb elb k : Nat} {inn : Nat → Bool} {ctr : Nat → Rp} {bal : Nat → Nat → Rp} {nm : Nat → ByteArray} {start : Nat → Int} {efv efv' : Value} {o : Obj} (h : LS w5 wr N C ecb elb efv (failA inn N ctr bal preS nm k) (cellA inn N ctr bal start k) (lostA inn N ctr bal k))
    (g : (wr.alloc o).grownBy w1 efv.ownBlock) (ho : w1.ownsRow w5.heap.size 9 1 efv' ((failA inn N ctr bal preS nm k).length + 1) ((failA inn N ctr bal preS nm k).map Value.string ++ [.string (nm k)])) (hnp : (wonI inn N ctr bal k).p = false) :
    LS w5 w1 N C ecb elb efv' (failA inn N ctr bal preS nm (k + 1)) (cellA inn N ctr bal start (k + 1)) (lostA inn N ctr bal (k + 1)) := by
  have ef : failA inn N ctr bal preS nm (k + 1) = failA inn N ctr bal preS nm k ++ [nm k] := by simp [failA, hnp]
  have el : lostA inn N ctr bal (k + 1) = lostA inn N ctr bal k := by simp [lostA, hnp]
  rw [ef, el]
  exact ((h.later ((Below.refl _ wr).alloc (Nat.le_refl _) o)).addF g ho).congr (fun c => cellA_skip hnp c) (fun _ => rfl)

set_option maxRecDepth 1000000 in
set_option maxHeartbeats 40000000 in
theorem partC (w w3 w5 : World) (N C rb pb eb cb lb fb nb ncap vb vcap ib bb kb sb : Nat) (bl : Nat → Nat) (inn : Nat → Bool) (ctr : Nat → Rp) (bal : Nat → Nat → Rp) (nm : Nat → ByteArray) (start : Nat → Int) (dv : Value) (l : List Rp) (hN3 : 1 ≤ N) (hN : N ≤ 8) (hC : 1 ≤ C) (hC4 : C ≤ 4)
    (hb0 : Below w.heap.size w w5) (hI : VIm w5 [rb, eb, lb, fb] N C pb nb ncap vb vcap cb ib lb bb kb bl inn ctr bal nm) (hV : VM w3 w5 N C rb pb eb cb lb fb (cellA inn N ctr bal start C) (lostA inn N ctr bal C) (failA inn N ctr bal preS nm C) dv l) (hst : ∀ c, c < C + 1 → w5.cell? ⟨sb, c, none⟩ = some (.int .i64 (start c)))
    (c0 c1 c2 c3 c4 c5 c6 c7 c8 c9 c10 c11 c12 c13 c14 c18 c19 c20 c23 c24 c27 c28 c29 c30 c31 c32 c34 c35 c36 c37 c38 c39 c40 c41 c42 c43 c44 c45 c46 c47 c48 c49 c50 c51 c52 c53 c54 c55 c56 c57 c58 c59 c60 c61 c62 c63 c64 c65 c66 c67 c68 c69 c70 c71 c72 c73 c74 c75 c76 c77 c78 c79 c80 c81 c82 c83 c84 c85 c86 c87 c88 c89 c90 c91 c92 c93 c94 c95 c96 c97 c98 c99 c100 c101 c102 c103 c104 c105 c106 c107 c108 c109 c110 c111 c112 c113 c114 c115 c116 c117 c118 c119 c120 c121 c122 c123 c124 c125 c126 c127 c128 c129 c130 c131 c132 c133 c134 c135 c136 c137 c138 c139 c140 c141 c142 c143 c144 c145 c146 c147 c148 c149 c150 c151 c152 c153 c154 c155 c156 c157 c158 c159 c160 c161 c162 c163 c164 c165 c166 c167 c168 c169 c170 c171 c172 c173 c174 c175 c176 c177 c178 c179 c180 c181 c182 c183 c184 c185 c186 c187 c188 c189 c190 c191 c192 c193 c194 c195 c196 c197 c198 c199 c200 c201 c202 c203 c204 c205 c206 c207 c208 c209 c210 c211 c212 c213 c214 c215 c216 c217 c218 c219 c220 c221 c222 c223 c224 c225 c226 c227 c228 c229 c230 c231 c232 c233 c234 c235 c236 c237 c238 c239 c240 c241 c242 c243 c244 c245 c246 c247 c248 c249 c250 c251 c252 c253 c254 c255 c256 c257 c258 c259 c260 c261 c262 c263 c264 c265 c266 c267 c268 c269 c270 c271 c272 c273 c274 c275 c276 c277 c278 c279 c280 c281 c282 c283 c284 c285 c286 c287 c288 c289 c290 c291 c292 c293 c294 c295 c296 c297 c298 c299 c300 c301 c302 c303 c304 c305 c306 c307 c308 c309 c310 c311 c312 c313 c314 c315 c316 c317 c318 c319 c320 c321 c322 c323 c324 c325 c326 c327 c328 c329 c330 c331 c332 c333 c334 c335 c336 c337 c338 c339 c340 c341 c342 c343 c344 c345 c346 c347 c348 c349 c350 c351 c352 c353 c354 c355 c356 c357 c358 c359 c360 c361 c362 c363 c364 c365 c366 c367 c368 c369 c370 c371 c372 c373 c374 c375 c376 c377 c378 c379 c380 c381 c382 c383 c384 c385 : Value) (K : Act → World → Prop)
    (hK : ∀ a v, Code.wp Yba.prog pairC.2 (bodyPost Yba.prog Yba.f3 fun e w' => e = .returned (.bool true) ∧ Below w.heap.size w w') a v → K a v) :
    Code.wp Yba.prog pairC.1 (Exit.then K (bodyPost Yba.prog Yba.f3 fun e w' => e = .returned (.bool true) ∧ Below w.heap.size w w')) ⟨#[c0, c1, c2, c3, c4, c5, c6, c7, c8, c9, c10, c11, c12, c13, c14, .int .i64 N, .int .i64 C, .slice (some ⟨nb, 0, none⟩) (C + 1) ncap, c18, c19, c20, .pointer (some ⟨rb, 0, none⟩), .slice (some ⟨sb, 0, none⟩) (C + 1) (C + 1), c23, c24, .slice (some ⟨bb, 0, none⟩) N N, .slice (some ⟨kb, 0, none⟩) N N, c27, c28, c29, c30, c31, c32, .slice (some ⟨fb, 0, none⟩) (failA inn N ctr bal preS nm C).length 8, c34, c35, c36, c37, c38, c39, c40, c41, c42, c43, c44, c45, c46, c47, c48, c49, c50, c51, c52, c53, c54, c55, c56, c57, c58, c59, c60, c61, c62, c63, c64, c65, c66, c67, c68, c69, c70, c71, c72, c73, c74, c75, c76, c77, c78, c79, c80, c81, c82, c83, c84, c85, c86, c87, c88, c89, c90, c91, c92, c93, c94, c95, c96, c97, c98, c99, c100, c101, c102, c103, c104, c105, c106, c107, c108, c109, c110, c111, c112, c113, c114, c115, c116, c117, c118, c119, c120, c121, c122, c123, c124, c125, c126, c127, c128, c129, c130, c131, c132, c133, c134, c135, c136, c137, c138, c139, c140, c141, c142, c143, c144, c145, c146, c147, c148, c149, c150, c151, c152, c153, c154, c155, c156, c157, c158, c159, c160, c161, c162, c163, c164, c165, c166, c167, c168, c169, c170, c171, c172, c173, c174, c175, c176, c177, c178, c179, c180, c181, c182, c183, c184, c185, c186, c187, c188, c189, c190, c191, c192, c193, c194, c195, c196, c197, c198, c199, c200, c201, c202, c203, c204, c205, c206, c207, c208, c209, c210, c211, c212, c213, c214, c215, c216, c217, c218, c219, c220, c221, c222, c223, c224, c225, c226, c227, c228, c229, c230, c231, c232, c233, c234, c235, c236, c237, c238, c239, c240, c241, c242, c243, c244, c245, c246, c247, c248, c249, c250, c251, c252, c253, c254, c255, c256, c257, c258, c259, c260, c261, c262, c263, c264, c265, c266, c267, c268, c269, c270, c271, c272, c273, c274, c275, c276, c277, c278, c279, c280, c281, c282, c283, c284, c285, c286, c287, c288, c289, c290, c291, c292, c293, c294, c295, c296, c297, c298, c299, c300, c301, c302, c303, c304, c305, c306, c307, c308, c309, c310, c311, c312, c313, c314, c315, c316, c317, c318, c319, c320, c321, c322, c323, c324, c325, c326, c327, c328, c329, c330, c331, c332, c333, c334, c335, c336, c337, c338, c339, c340, c341, c342, c343, c344, c345, c346, c347, c348, c349, c350, c351, c352, c353, c354, c355, c356, c357, c358, c359, c360, c361, c362, c363, c364, c365, c366, c367, c368, c369, c370, c371, c372, c373, c374, c375, c376, c377, c378, c379, c380, c381, c382, c383, c384, c385], []⟩ w5 := by
  conv => arg 2; whnf
  conv at hK => enter [a, v, 1, 2]; whnf
  have hsb : sb < w5.heap.size := by simpa using World.block_lt_of_cell? _ _ (hst 0 (by omega))
  have K7 := hide (clone_any sb (C + 1) (C + 1) start (w5.alloc (.cells #[.string preS] 9)) (by omega) (by omega) (fun i hi => (World.cell?_alloc_past _ _ _ hsb).trans (hst i hi)))
  have kmk := run_make_gen (P := Yba.prog) 24 4 (.bool false) 1 Yba.underlying24 Yba.info4 rfl N N (Nat.le_refl _) (by omega) (by omega)
  have HW := hide (And.intro hb0 (And.intro hI (And.intro hV hst)))
  clear hb0 hI hV hst hsb
  go_upto_region 55 with (go_at_call 7; refine K7.out.mono ?_; rintro e w6 ⟨ecb, ecap, rfl, hb6, hge6, hrow6⟩; have H6 := hide (And.intro hb6 (And.intro hge6 hrow6)); clear hb6 hge6 hrow6)
  have hLS := hide (LS.start (N := N) H6.out.1 H6.out.2.1 H6.out.2.2)
  have km38 := run_make49 0 N (Nat.zero_le _) (by omega)
  have km43 : ∀ w, (Instr.makeSlice 43 (.int .i64 0) (.int .i64 (N : Int))).run Yba.prog w = .ok (.slice (some ⟨w.heap.size, 0, none⟩) 0 N) (w.alloc (.cells (madeCells #[.int .i64 0] N) 3)) := run_make_gen (P := Yba.prog) 43 3 (.int .i64 0) 8 Yba.underlying43 Yba.info3 rfl 0 N (Nat.zero_le _) (by omega) (by omega)
  have km38' : ∀ w, (Instr.makeSlice 38 (.int .i64 0) (.int .i64 (N : Int))).run Yba.prog w = .ok (.slice (some ⟨w.heap.size, 0, none⟩) 0 N) (w.alloc (.cells (madeCells #[.int .i64 0, .bool false] (N * 2)) 49)) := km38
  clear km38
  generalize w6.alloc (.cells (madeCells #[.bool false] N) 4) = w7 at hLS ⊢
  generalize w6.heap.size = elb at hLS ⊢
  clear H6 kmk K7
  go_loopg [34, 37] C (fun gk x y wr => ∃ (k : Nat), y = .int .i64 k ∧ gk + k = C ∧ LS w5 wr N C ecb elb x (failA inn N ctr bal preS nm k) (cellA inn N ctr bal start k) (lostA inn N ctr bal k))
  case atStart => exact ⟨0, rfl, by omega, hLS.out.congr (fun c => by simp [cellA]) (fun n => rfl)⟩
  case round =>
    clear hLS
    obtain ⟨k, rfl, hgk, hL⟩ := hrel
    by_cases hk : k < C
    · have hL7 := hide (And.intro hL (loop7_start hL N))
      have hqk : (k : Int) < (C : Int) := by omega
      clear hL
      obtain ⟨w0, hw0⟩ : ∃ w0, w0 = wr := ⟨_, rfl⟩
      subst hw0
      go_upto_region 60 with fail
      have hgp : w5.heap.size ≤ w0.heap.size := hL7.out.1.below.size
      have hgo : w5.heap.size ≤ w0.heap.size + 1 := by omega
      generalize (w0.alloc (.cells (madeCells #[.int .i64 0, .bool false] (N * 2)) 49)).alloc (.cells (madeCells #[.int .i64 0] N) 3) = w8 at hL7 ⊢
      generalize w0.heap.size + 1 = owb at hL7 hgo ⊢
      generalize w0.heap.size = rpb at hL7 hgp ⊢
      go_loopg [38, 39, 40] N (fun gk x y z wx => ∃ n : Nat, x = .slice (some ⟨rpb, 0, none⟩) (idx inn n) N ∧ y = .slice (some ⟨owb, 0, none⟩) (idx inn n) N ∧ z = .int .i64 n ∧ gk + n = N ∧ LS w5 wx N C ecb elb u34 (failA inn N ctr bal preS nm k) (cellA inn N ctr bal start k) (lostA inn N ctr bal k) ∧ RRow wx rpb N (rl inn (repI ctr bal k) n) ∧ ORow wx owb N (ow inn n))
      case atStart => exact ⟨0, rfl, rfl, rfl, by omega, hL7.out.2⟩
      case round =>
        clear hL7
        obtain ⟨n, rfl, rfl, rfl, hgk2, hL, hR, hO⟩ := hrel
        by_cases hn : n < N
        · have hIr := HW.out.2.1.keep (GB.of_below hL.below)
          have r5 := (hL.below.cell (p := ⟨rb, 5, none⟩) HW.out.2.2.1.rlt).trans HW.out.2.2.1.r5
          have c1 := hIr.c1
          have i1 := hIr.inn.cell hn
          have hqn : (n : Int) < (N : Int) := by omega
          have hix : idx inn (n + 1) = idx inn n + (if inn n = true then 1 else 0) := rfl
          cases hin : inn n with
          | false =>
            rw [hin] at i1 hix
            have HM := hide (And.intro hL (And.intro hR (And.intro hO (And.intro hin hix))))
            clear hL hR hO hIr hin hix
            go_wp2
            go_roundg (N - (n + 1))
            case measure => omega
            case rel =>
              have e1 : rl inn (repI ctr bal k) (n + 1) = rl inn (repI ctr bal k) n := by simp [rl, HM.out.2.2.2.1]
              have e2 : ow inn (n + 1) = ow inn n := by simp [ow, HM.out.2.2.2.1]
              have e3 : idx inn (n + 1) = idx inn n := by simp [idx, HM.out.2.2.2.1]
              exact ⟨n + 1, by rw [e3], by rw [e3], by go_num, by omega, HM.out.1, by rw [e1]; exact HM.out.2.1, by rw [e2]; exact HM.out.2.2.1⟩
          | true =>
            rw [hin] at i1
            obtain ⟨k0, k1⟩ := hIr.ctr n hn
            have hkl := (hIr.lt kb (by simp)).1
            obtain ⟨bv, hbv⟩ : ∃ bv, decide (ctr n = ⟨1, true⟩) = bv := ⟨_, rfl⟩
            have hrp : repI ctr bal k n = if bv = true then bal n k else ⟨0, false⟩ := by unfold repI; rw [← hbv]; simp
            have hprp : rpb ≠ wr.heap.size := Nat.ne_of_lt hR.tag.lt
            have hpow : owb ≠ wr.heap.size := Nat.ne_of_lt hO.tag.lt
            have hpg : w5.heap.size ≤ wr.heap.size := hL.below.size
            have hidN : idx inn n < N := by have h1 := idx_lt hin hn; have h2 := idx_le inn N; omega
            have HM := hide (And.intro (hL.later ((Below.refl _ wr).alloc (Nat.le_refl _) (.cells #[.int .i64 0, .bool false] 49))) (And.intro (hR.of_block (w1 := wr.alloc (.cells #[.int .i64 0, .bool false] 49)) (Below.heap_alloc _ _ _ hR.tag.lt)) (And.intro (hO.of_block (w1 := wr.alloc (.cells #[.int .i64 0, .bool false] 49)) (Below.heap_alloc _ _ _ hO.tag.lt)) (And.intro hin (And.intro hbv (And.intro hrp hix))))))
            clear hL hR hO hIr hin hbv hrp hix
            obtain ⟨cn, hcn⟩ : ∃ cn, ctr n = cn := ⟨_, rfl⟩
            rw [hcn] at k0 k1
            have HCN := hide hcn
            clear hcn
            have g0 : (wr.alloc (.cells #[.int .i64 0, .bool false] 49)).cell? ⟨kb, n * 2, none⟩ = _ := (World.cell?_alloc_past _ _ _ hkl).trans k0
            have g1 : (wr.alloc (.cells #[.int .i64 0, .bool false] 49)).cell? ⟨kb, n * 2 + 1, none⟩ = _ := (World.cell?_alloc_past _ _ _ hkl).trans k1
            go_upto_region 64 with fail
            go_cut [265] (fun x wx => x = .bool bv ∧ LS w5 wx N C ecb elb u34 (failA inn N ctr bal preS nm k) (cellA inn N ctr bal start k) (lostA inn N ctr bal k) ∧ RRow wx rpb N (rl inn (repI ctr bal k) n) ∧ ORow wx owb N (ow inn n) ∧ RpBlk wx wr.heap.size ⟨0, false⟩)
            case first =>
              have hnew : RpBlk (wr.alloc (.cells #[.int .i64 0, .bool false] 49)) wr.heap.size ⟨0, false⟩ := heap_alloc_new _ _
              have HNW := hide hnew
              clear hnew
              have hlp : wr.heap.size < (wr.alloc (.cells #[.int .i64 0, .bool false] 49)).heap.size := by simp
              have HLP := hide hlp
              clear hlp
              generalize wr.alloc (.cells #[.int .i64 0, .bool false] 49) = wa at HM HNW HLP g0 g1 ⊢
              have hkla : kb < wa.heap.size := by simpa using World.block_lt_of_cell? _ _ g0
              have K5 := hide (reading_any 1 wa.drew)
              have hbx : Below wa.heap.size wa (wa.alloc (.cells #[.int .i64 1, .bool true] 49)).drew := ((Below.refl _ wa).alloc (Nat.le_refl _) _).drew
              obtain ⟨cv, cp⟩ := cn
              simp only at g0 g1
              rcases rp_cases ⟨cv, cp⟩ ⟨1, true⟩ with he | he | he
              · have hzb : bv = true := by rw [← HM.out.2.2.2.2.1, HCN.out, he]; rfl
                subst hzb
                simp only [Rp.mk.injEq] at he
                obtain ⟨rfl, rfl⟩ := he
                go_region_held3 (fun W => W.cell? ⟨kb, n * 2, none⟩ = some (.int .i64 1) ∧ W.cell? ⟨kb, n * 2 + 1, none⟩ = some (.bool true))
                  (first | exact ⟨by assumption, by assumption⟩ | exact ⟨(World.cell?_alloc_past _ _ _ hkla).trans g0, (World.cell?_alloc_past _ _ _ hkla).trans g1⟩ | go_keep)
                  (first | (go_at_call 5; refine K5.out.mono ?_; rintro e w4 ⟨rfl, rfl⟩))
                go_wp2
                go_meet
                case rel => exact ⟨rfl, HM.out.1.later hbx, HM.out.2.1.of_block (hbx.block _ HM.out.2.1.tag.lt), HM.out.2.2.1.of_block (hbx.block _ HM.out.2.2.1.tag.lt), HNW.out.of_block (hbx.block _ HLP.out)⟩
              · have hzb : bv = false := by rw [← HM.out.2.2.2.2.1, HCN.out]; exact decide_eq_false (rp_ne (.inl he))
                subst hzb
                simp only at he
                go_region_held3 (fun W => W.cell? ⟨kb, n * 2, none⟩ = some (.int .i64 cv) ∧ W.cell? ⟨kb, n * 2 + 1, none⟩ = some (.bool cp))
                  (first | exact ⟨by assumption, by assumption⟩ | exact ⟨(World.cell?_alloc_past _ _ _ hkla).trans g0, (World.cell?_alloc_past _ _ _ hkla).trans g1⟩ | go_keep)
                  (first | (go_at_call 5; refine K5.out.mono ?_; rintro e w4 ⟨rfl, rfl⟩))
                go_wp2
                go_meet
                case rel => exact ⟨rfl, HM.out.1.later hbx, HM.out.2.1.of_block (hbx.block _ HM.out.2.1.tag.lt), HM.out.2.2.1.of_block (hbx.block _ HM.out.2.2.1.tag.lt), HNW.out.of_block (hbx.block _ HLP.out)⟩
              · have hzb : bv = false := by rw [← HM.out.2.2.2.2.1, HCN.out]; exact decide_eq_false (rp_ne (.inr he))
                subst hzb
                simp only at he
                obtain ⟨rfl, he⟩ := he
                obtain rfl : cp = false := by simpa using he
                go_region_held3 (fun W => W.cell? ⟨kb, n * 2, none⟩ = some (.int .i64 1) ∧ W.cell? ⟨kb, n * 2 + 1, none⟩ = some (.bool false))
                  (first | exact ⟨by assumption, by assumption⟩ | exact ⟨(World.cell?_alloc_past _ _ _ hkla).trans g0, (World.cell?_alloc_past _ _ _ hkla).trans g1⟩ | go_keep)
                  (first | (go_at_call 5; refine K5.out.mono ?_; rintro e w4 ⟨rfl, rfl⟩))
                go_wp2
                go_meet
                case rel => exact ⟨rfl, HM.out.1.later hbx, HM.out.2.1.of_block (hbx.block _ HM.out.2.1.tag.lt), HM.out.2.2.1.of_block (hbx.block _ HM.out.2.2.1.tag.lt), HNW.out.of_block (hbx.block _ HLP.out)⟩
            case rest =>
              obtain ⟨rfl, hL, hR, hO, hP⟩ := hcut
              generalize wr.heap.size = pq at hP hprp hpow hpg ⊢
              have HRR := hide HM.out.2.2.2
              clear HM k0 k1 hkl HCN g0 g1 r5 c1 i1
              have hIr := HW.out.2.1.keep (GB.of_below hL.below)
              have b1 := hIr.bal1 n hn
              obtain ⟨y0, y1⟩ := hIr.bal2 n hn k hk
              have pf := hP.free
              have p0 := hP.c0
              have p1 := hP.c1
              have HM := hide (And.intro hL (And.intro hR (And.intro hO hP)))
              clear hL hR hO hP hIr
              go_upto_if 265 with fail
              go_cut [] (fun wx => LS w5 wx N C ecb elb u34 (failA inn N ctr bal preS nm k) (cellA inn N ctr bal start k) (lostA inn N ctr bal k) ∧ RRow wx rpb N (rl inn (repI ctr bal k) n) ∧ ORow wx owb N (ow inn n) ∧ RpBlk wx pq (repI ctr bal k n))
              case first =>
                cases bv with
                | true =>
                  go_wp2
                  go_meet
                  case rel =>
                    have hr : repI ctr bal k n = bal n k := by simpa using HRR.out.2.2.1
                    rw [hr]
                    have hg := grown_set2 wc pq 0 1 (.int .i64 (bal n k).v) (.bool (bal n k).p)
                    exact ⟨HM.out.1.other HM.out.2.2.2.tag hpg (by decide) (by decide) (by decide) hg, HM.out.2.1.of_block (hg.block _ HM.out.2.1.tag.lt (by simp; exact hprp)), HM.out.2.2.1.of_block (hg.block _ HM.out.2.2.1.tag.lt (by simp; exact hpow)), HM.out.2.2.2.set _⟩
                | false =>
                  go_wp2
                  go_meet
                  case rel =>
                    have hr : repI ctr bal k n = ⟨0, false⟩ := by simpa using HRR.out.2.2.1
                    rw [hr]
                    exact HM.out
              case rest =>
                obtain ⟨hL, hR, hO, hP⟩ := hcut
                clear HM y0 y1 pf p0 p1 b1
                obtain ⟨R, hRr⟩ : ∃ R, repI ctr bal k n = R := ⟨_, rfl⟩
                rw [hRr] at hP
                have p0 := hP.c0
                have p1 := hP.c1
                have hrA := run_room49 (b := rpb) (l := rl inn (repI ctr bal k) n) hR (by rw [rl_length]; exact hidN) R
                rw [rl_length] at hrA
                have HM := hide (And.intro hL (And.intro hR (And.intro hO (And.intro hRr HRR.out))))
                have hne : rpb ≠ owb := hR.tag.ne hO.tag (by decide)
                clear hL hR hO hP hRr HRR
                go_upto_region 66 with fail
                go_cut [38] (fun x wx => x = .slice (some ⟨rpb, 0, none⟩) (idx inn n + 1) N ∧ LS w5 wx N C ecb elb u34 (failA inn N ctr bal preS nm k) (cellA inn N ctr bal start k) (lostA inn N ctr bal k) ∧ RRow wx rpb N (rl inn (repI ctr bal k) n ++ [R]) ∧ ORow wx owb N (ow inn n))
                case first =>
                  go_wp2
                  go_meet
                  case rel =>
                    have hbA := (Below.refl wc.heap.size wc).alloc (Nat.le_refl _) (.cells #[.int .i64 R.v, .bool R.p] 49)
                    have hL1 := HM.out.1.later hbA
                    have hR1 := HM.out.2.1.of_block (w1 := wc.alloc (.cells #[.int .i64 R.v, .bool R.p] 49)) (hbA.block _ HM.out.2.1.tag.lt)
                    have hO1 := HM.out.2.2.1.of_block (w1 := wc.alloc (.cells #[.int .i64 R.v, .bool R.p] 49)) (hbA.block _ HM.out.2.2.1.tag.lt)
                    have hg := grown_set2 (wc.alloc (.cells #[.int .i64 R.v, .bool R.p] 49)) rpb (idx inn n * 2) (idx inn n * 2 + 1) (.int .i64 R.v) (.bool R.p)
                    refine ⟨rfl, hL1.other hR1.tag hgp (by decide) (by decide) (by decide) hg, ?_, hO1.of_block (hg.block _ hO1.tag.lt (by simp; exact Ne.symm hne))⟩
                    have := hR1.add (by rw [rl_length]; exact hidN) R
                    rw [rl_length] at this
                    exact this
                case rest =>
                  obtain ⟨rfl, hL, hR, hO⟩ := hcut
                  clear p0 p1 hrA
                  have hrB := run_room3 (b := owb) (l := ow inn n) hO (by rw [ow_length]; exact hidN) n
                  rw [ow_length] at hrB
                  have HM2 := hide (And.intro hL (And.intro hR (And.intro hO HM.out.2.2.2)))
                  clear hL hR hO HM
                  go_wp2
                  go_roundg (N - (n + 1))
                  case measure => omega
                  case rel =>
                    have hin := HM2.out.2.2.2.2.1
                    have e1 : rl inn (repI ctr bal k) (n + 1) = rl inn (repI ctr bal k) n ++ [R] := by rw [← HM2.out.2.2.2.1]; simp [rl, hin]
                    have e2 : ow inn (n + 1) = ow inn n ++ [n] := by simp [ow, hin]
                    have e3 : idx inn (n + 1) = idx inn n + 1 := by simp [idx, hin]
                    have hbA := (Below.refl wc.heap.size wc).alloc (Nat.le_refl _) (.cells #[.int .i64 n] 3)
                    have hL1 := HM2.out.1.later hbA
                    have hR1 := HM2.out.2.1.of_block (w1 := wc.alloc (.cells #[.int .i64 n] 3)) (hbA.block _ HM2.out.2.1.tag.lt)
                    have hO1 := HM2.out.2.2.1.of_block (w1 := wc.alloc (.cells #[.int .i64 n] 3)) (hbA.block _ HM2.out.2.2.1.tag.lt)
                    have hg := grown_set (wc.alloc (.cells #[.int .i64 n] 3)) owb (idx inn n) (.int .i64 n)
                    refine ⟨n + 1, by rw [e3], by rw [e3], by go_num, by omega, hL1.other hO1.tag hgo (by decide) (by decide) (by decide) hg, by rw [e1]; exact hR1.of_block (hg.block _ hR1.tag.lt (by simp; exact hne)), ?_⟩
                    rw [e2]
                    have := hO1.add (by rw [ow_length]; exact hidN) n
                    rw [ow_length] at this
                    exact this
        · obtain rfl : n = N := by omega
          have hnew : RpBlk (wr.alloc (.cells #[.int .i64 0, .bool false] 49)) wr.heap.size ⟨0, false⟩ := heap_alloc_new _ _
          have hbA := (Below.refl wr.heap.size wr).alloc (Nat.le_refl _) (.cells #[.int .i64 0, .bool false] 49)
          have hprp : rpb ≠ wr.heap.size := Nat.ne_of_lt hR.tag.lt
          have hpow : owb ≠ wr.heap.size := Nat.ne_of_lt hO.tag.lt
          have hpg : w5.heap.size ≤ wr.heap.size := hL.below.size
          have HM := hide (And.intro (hL.later hbA) (And.intro (hR.of_block (w1 := wr.alloc (.cells #[.int .i64 0, .bool false] 49)) (hbA.block _ hR.tag.lt)) (And.intro (hO.of_block (w1 := wr.alloc (.cells #[.int .i64 0, .bool false] 49)) (hbA.block _ hO.tag.lt)) hnew)))
          have hidN := idx_le inn n
          clear hL hR hO hnew hbA
          go_wp2
          generalize wr.alloc (.cells #[.int .i64 0, .bool false] 49) = w9 at HM ⊢
          generalize wr.heap.size = wq at HM hprp hpow hpg ⊢
          obtain ⟨f, hf⟩ : ∃ f, rf inn (repI ctr bal k) n = f := ⟨_, rfl⟩
          obtain ⟨L, hL⟩ : ∃ L, idx inn n = L := ⟨_, rfl⟩
          rw [hL] at hidN ⊢
          have hfl : ∀ x, x < L → (rl inn (repI ctr bal k) n)[x]? = some (f x) := fun x hx => by
            rw [← hf]
            unfold rf
            rw [List.getElem?_eq_getElem (by rw [rl_length, hL]; exact hx)]
            rfl
          have hWf : wonI inn n ctr bal k = (maj f L).1 := by unfold wonI; rw [hf, hL]
          have HF := hide (And.intro hfl (And.intro hWf hL))
          clear hf hfl hWf hL
          go_loopg [43, 44] L (fun gk x y wx => ∃ j : Nat, x = .bool false ∧ y = .int .i64 j ∧ gk + j = L ∧ LS w5 wx n C ecb elb u34 (failA inn n ctr bal preS nm k) (cellA inn n ctr bal start k) (lostA inn n ctr bal k) ∧ RRow wx rpb n (rl inn (repI ctr bal k) n) ∧ ORow wx owb n (ow inn n) ∧ RpBlk wx wq ⟨0, false⟩ ∧ ∀ j', j' < j → ¬ L < 2 * cnt f (f j') L)
          case atStart => exact ⟨0, rfl, rfl, by omega, HM.out.1, HM.out.2.1, HM.out.2.2.1, HM.out.2.2.2, fun j' h => by omega⟩
          case round =>
            clear HM
            obtain ⟨j, rfl, rfl, hgk8, hL, hR, hO, hP, hnw⟩ := hrel
            by_cases hj : j < L
            · have HM := hide (And.intro hL (And.intro hR (And.intro hO (And.intro hP hnw))))
              have hqj : (j : Int) < (L : Int) := by omega
              clear hL hR hO hP hnw
              obtain ⟨w10, hw10⟩ : ∃ w10, w10 = wr := ⟨_, rfl⟩
              subst hw10
              go_wp2
              go_loopg [45, 46] L (fun gk x y wz => ∃ q m : Nat, x = .int .i64 (cnt f (f j) q) ∧ y = .int .i64 q ∧ gk + q = L ∧ wz = w10.drewN m)
              case atStart => exact ⟨0, 0, rfl, rfl, by omega, rfl⟩
              case round =>
                obtain ⟨q, m, rfl, rfl, hgk9, rfl⟩ := hrel
                have hcl := cnt_le f (f j) q
                by_cases hq : q < L
                · obtain ⟨a0, a1⟩ := HM.out.2.1.at (HF.out.1 q hq)
                  obtain ⟨b0, b1⟩ := HM.out.2.1.at (HF.out.1 j hj)
                  have hqq : (q : Int) < (L : Int) := by omega
                  have hcs : cnt f (f j) (q + 1) = cnt f (f j) q + (if f q = f j then 1 else 0) := rfl
                  obtain ⟨fq, hfq⟩ : ∃ fq, f q = fq := ⟨_, rfl⟩
                  obtain ⟨fj, hfj⟩ : ∃ fj, f j = fj := ⟨_, rfl⟩
                  rw [hfq] at a0 a1 hcs
                  have HCS := hide (And.intro hcs (And.intro hfq hfj))
                  rw [hfj] at b0 b1
                  clear hcs hfq hfj
                  rcases rp_cases fq fj with he | he
                  · have e : cnt f (f j) (q + 1) = cnt f (f j) q + 1 := by rw [HCS.out.1, if_pos (he.trans HCS.out.2.2.symm)]
                    have HE := hide e
                    clear e HCS
                    subst he
                    go_wp2
                    go_quiet (fail)
                    go_wp2
                    go_roundg (L - (q + 1))
                    case measure => omega
                    case rel => exact ⟨q + 1, _, by rw [HE.out]; exact congrArg (Value.int .i64) (by simp), by go_num, by omega, rfl⟩
                  · have e : cnt f (f j) (q + 1) = cnt f (f j) q := by rw [HCS.out.1, if_neg (fun h => rp_ne he (h.trans HCS.out.2.2))]; rfl
                    have HE := hide e
                    clear e HCS
                    rcases he with he | ⟨he, he'⟩
                    · go_wp2
                      go_quiet (fail)
                      go_wp2
                      go_roundg (L - (q + 1))
                      case measure => omega
                      case rel => exact ⟨q + 1, _, by rw [HE.out], by go_num, by omega, rfl⟩
                    · go_wp2
                      go_quiet (fail)
                      go_wp2
                      go_roundg (L - (q + 1))
                      case measure => omega
                      case rel => exact ⟨q + 1, _, by rw [HE.out], by go_num, by omega, rfl⟩
                · obtain rfl : q = L := by omega
                  by_cases hwin : q < 2 * cnt f (f j) q
                  · have hqw : (q : Int) < 2 * (cnt f (f j) q : Int) := by omega
                    have hWj : wonI inn n ctr bal k = f j := by rw [HF.out.2.1, maj_win hwin]
                    obtain ⟨b0, b1⟩ := HM.out.2.1.at (HF.out.1 j hj)
                    have p0 := HM.out.2.2.2.1.c0
                    have p1 := HM.out.2.2.2.1.c1
                    have pf := HM.out.2.2.2.1.free
                    have HWJ := hide hWj
                    clear hWj
                    go_upto_region 80 with fail
                    go_cut [] (fun wx => LS w5 wx n C ecb elb u34 (failA inn n ctr bal preS nm k) (cellA inn n ctr bal start k) (lostA inn n ctr bal k) ∧ RRow wx rpb n (rl inn (repI ctr bal k) n) ∧ ORow wx owb n (ow inn n) ∧ RpBlk wx wq (f j))
                    case first =>
                      go_wp2
                      go_meet
                      case rel =>
                        have hbd : Below w10.heap.size w10 (w10.drewN m) := ⟨rfl, rfl, rfl, Nat.le_refl _, fun _ _ => rfl⟩
                        have hg := grown_set2 (w10.drewN m) wq 0 1 (.int .i64 (f j).v) (.bool (f j).p)
                        have hP : RpBlk (w10.drewN m) wq ⟨0, false⟩ := HM.out.2.2.2.1
                        have hR : RRow (w10.drewN m) rpb n (rl inn (repI ctr bal k) n) := HM.out.2.1
                        have hO : ORow (w10.drewN m) owb n (ow inn n) := HM.out.2.2.1
                        exact ⟨(HM.out.1.later hbd).other hP.tag hpg (by decide) (by decide) (by decide) hg, hR.of_block (hg.block _ hR.tag.lt (by simp; exact hprp)), hO.of_block (hg.block _ hO.tag.lt (by simp; exact hpow)), hP.set _⟩
                    case rest =>
                      obtain ⟨hL, hR, hO, hP⟩ := hcut
                      clear b0 b1 p0 p1 pf
                      have p1 := hP.c1
                      have p0 := hP.c0
                      cases hp : (f j).p with
                      | true =>
                        rw [hp] at p1
                        have e0 := hL.ec.cell (i := k) (by omega)
                        have ef := hL.ec.frozen k
                        have hkC : (k : Int) < (C : Int) + 1 := by omega
                        have hwe : wq ≠ ecb := hP.tag.ne (Tag.of_ge hL.ec) (by decide)
                        have hre : rpb ≠ ecb := hR.tag.ne (Tag.of_ge hL.ec) (by decide)
                        have hoe : owb ≠ ecb := hO.tag.ne (Tag.of_ge hL.ec) (by decide)
                        have HM3 := hide (And.intro (hL.setC k (f j).v) (And.intro (hR.of_block (w1 := wc.setCell ⟨ecb, k, none⟩ (.int .i64 (f j).v)) (heap_setCell_other _ _ _ _ hre)) (And.intro (hO.of_block (w1 := wc.setCell ⟨ecb, k, none⟩ (.int .i64 (f j).v)) (heap_setCell_other _ _ _ _ hoe)) (And.intro (hP.of_block (w' := wc.setCell ⟨ecb, k, none⟩ (.int .i64 (f j).v)) (heap_setCell_other _ _ _ _ hwe)) hp))))
                        clear hL hR hO hP hp hwe hre hoe
                        go_wp2
                        clear e0 ef p0 p1
                        generalize wc.setCell ⟨ecb, k, none⟩ (.int .i64 (f j).v) = w12 at HM3 ⊢
                        go_loopg [47] q (fun gk y wx => ∃ j2 : Nat, y = .int .i64 j2 ∧ gk + j2 = q ∧ LS w5 wx n C ecb elb u34 (failA inn n ctr bal preS nm k) (fun x => if x = k then (f j).v else cellA inn n ctr bal start k x) (lostJ inn n (repI ctr bal k) (f j) (lostA inn n ctr bal k) j2) ∧ RRow wx rpb n (rl inn (repI ctr bal k) n) ∧ ORow wx owb n (ow inn n) ∧ RpBlk wx wq (f j))
                        case atStart => exact ⟨0, rfl, by omega, HM3.out.1.congr (fun _ => rfl) (fun m => (lostJ_zero _ _ _ _ _ _).symm), HM3.out.2.1, HM3.out.2.2.1, HM3.out.2.2.2.1⟩
                        case round =>
                          obtain ⟨j2, rfl, hgk10, hL, hR, hO, hP⟩ := hrel
                          by_cases hj2 : j2 < q
                          · obtain ⟨o, ho⟩ : ∃ o, (ow inn n)[j2]? = some o := ⟨(ow inn n)[j2]'(by rw [ow_length, HF.out.2.2]; exact hj2), List.getElem?_eq_getElem _⟩
                            have hon : o < n := ((ow_mem inn).1 (List.mem_of_getElem? ho)).1
                            have hrj : (rl inn (repI ctr bal k) n)[j2]? = some (repI ctr bal k o) := by rw [rl_ow, List.getElem?_map, ho]; rfl
                            obtain ⟨zo, hzo⟩ : ∃ zo : Int, (o : Int) = zo := ⟨_, rfl⟩
                            have o1 := hO.at ho
                            rw [hzo] at o1
                            obtain ⟨a0, a1⟩ := hR.at hrj
                            have q0 := hP.c0
                            have q1 := hP.c1
                            have hqj2 : (j2 : Int) < (q : Int) := by omega
                            have z0 : 0 ≤ zo := by omega
                            have z1 : zo < (n : Int) := by omega
                            have z2 : zo.toNat = o := by omega
                            obtain ⟨ro, hro⟩ : ∃ ro, repI ctr bal k o = ro := ⟨_, rfl⟩
                            rw [hro] at a0 a1
                            obtain ⟨fj, hfj⟩ : ∃ fj, f j = fj := ⟨_, rfl⟩
                            rw [hfj] at q0 q1
                            obtain ⟨bv, hbv⟩ : ∃ bv, (decide (o ≠ 0) && decide (ro ≠ fj)) = bv := ⟨_, rfl⟩
                            have HO := hide (And.intro ho (And.intro hzo (And.intro hro (And.intro hfj hbv))))
                            have HM4 := hide (And.intro hL (And.intro hR (And.intro hO hP)))
                            clear hL hR hO hP ho hzo hro hfj hbv hrj
                            go_upto_region 88 with fail
                            go_cut [350] (fun x wx => x = .bool bv ∧ ∃ m2, wr.drewN m2 = wx)
                            case first =>
                              by_cases hn0 : o = 0
                              · have hzb : bv = false := by rw [← HO.out.2.2.2.2, hn0]; rfl
                                subst hzb
                                have hne : (zo != 0) = false := by rw [← HO.out.2.1, hn0]; rfl
                                clear hn0
                                go_quiet (fail)
                                go_wp2
                                go_meet
                                case rel => exact ⟨rfl, _, rfl⟩
                              · have hne : (zo != 0) = true := by rw [← HO.out.2.1]; simp; omega
                                rcases rp_cases ro fj with he | he
                                · have hzb : bv = false := by rw [← HO.out.2.2.2.2, he]; simp
                                  subst hzb
                                  subst he
                                  go_quiet (fail)
                                  go_wp2
                                  go_meet
                                  case rel => exact ⟨rfl, _, rfl⟩
                                · have hzb : bv = true := by rw [← HO.out.2.2.2.2, decide_eq_true hn0, decide_eq_true (rp_ne he)]; rfl
                                  subst hzb
                                  rcases he with he | ⟨he, he'⟩
                                  · go_quiet (fail)
                                    go_wp2
                                    go_meet
                                    case rel => exact ⟨rfl, _, rfl⟩
                                  · go_quiet (fail)
                                    go_wp2
                                    go_meet
                                    case rel => exact ⟨rfl, _, rfl⟩
                            case rest =>
                              obtain ⟨rfl, m2, rfl⟩ := hcut
                              have hbd : Below wr.heap.size wr (wr.drewN m2) := ⟨rfl, rfl, rfl, Nat.le_refl _, fun _ _ => rfl⟩
                              have HBD := hide hbd
                              have l1 := HM4.out.1.el.cell hon
                              have lf := HM4.out.1.el.frozen o
                              clear hbd a0 a1 q0 q1
                              cases bv with
                              | false =>
                                go_wp2
                                go_roundg (q - (j2 + 1))
                                case measure => omega
                                case rel =>
                                  refine ⟨j2 + 1, by go_num, by omega, (HM4.out.1.later HBD.out).congr (fun _ => rfl) (fun x => ?_), HM4.out.2.1, HM4.out.2.2.1, HM4.out.2.2.2⟩
                                  rw [lostJ_succ HO.out.1, if_neg]
                                  rintro ⟨-, h1, h2⟩
                                  have h3 := HO.out.2.2.2.2
                                  rw [← HO.out.2.2.1, ← HO.out.2.2.2.1, decide_eq_true h1, decide_eq_true h2] at h3
                                  simp at h3
                              | true =>
                                go_wp2
                                go_roundg (q - (j2 + 1))
                                case measure => omega
                                case rel =>
                                  have h3 := HO.out.2.2.2.2
                                  rw [← HO.out.2.2.1, ← HO.out.2.2.2.1, Bool.and_eq_true] at h3
                                  have h4 : o ≠ 0 := of_decide_eq_true h3.1
                                  have h5 : repI ctr bal k o ≠ f j := of_decide_eq_true h3.2
                                  have hL9 := HM4.out.1.later HBD.out
                                  have hg := grown_set (wr.drewN m2) elb o (.bool true)
                                  have nr : rpb ≠ elb := HM4.out.2.1.tag.ne (Tag.of_is HM4.out.1.el) (by decide)
                                  have no : owb ≠ elb := HM4.out.2.2.1.tag.ne (Tag.of_is HM4.out.1.el) (by decide)
                                  have nw : wq ≠ elb := HM4.out.2.2.2.tag.ne (Tag.of_is HM4.out.1.el) (by decide)
                                  refine ⟨j2 + 1, by go_num, by omega, (hL9.setL o).congr (fun _ => rfl) (fun x => ?_), HM4.out.2.1.of_block (heap_setCell_other _ _ _ _ nr), HM4.out.2.2.1.of_block (heap_setCell_other _ _ _ _ no), HM4.out.2.2.2.of_block (heap_setCell_other _ _ _ _ nw)⟩
                                  rw [lostJ_succ HO.out.1]
                                  by_cases hx : x = o
                                  · rw [if_pos hx, if_pos ⟨hx, h4, h5⟩]
                                  · rw [if_neg hx, if_neg (fun h => hx h.1)]
                          · obtain rfl : j2 = q := by omega
                            have HM4 := hide hL
                            clear hL hR hO hP
                            go_wp2
                            go_roundg (C - (k + 1))
                            case measure => omega
                            case rel =>
                              have hnp : (wonI inn n ctr bal k).p = true := by rw [HWJ.out]; exact HM3.out.2.2.2.2
                              have ef : failA inn n ctr bal preS nm (k + 1) = failA inn n ctr bal preS nm k := by simp [failA, hnp]
                              have el : lostA inn n ctr bal (k + 1) = lostF inn (repI ctr bal k) (wonI inn n ctr bal k) (lostA inn n ctr bal k) n := by simp [lostA, hnp]
                              refine ⟨k + 1, by go_num, by omega, ?_⟩
                              rw [ef, el]
                              refine HM4.out.congr (fun c => ?_) (fun x => ?_)
                              · rw [← HWJ.out]; exact cellA_hit hnp c
                              · rw [← HF.out.2.2, HWJ.out]; exact lostJ_all _ _ _ _ _ _
                      | false =>
                        rw [hp] at p1
                        have hIr := HW.out.2.1.keep (GB.of_below hL.below)
                        have nk := hIr.names k (by omega)
                        have hkC : (k : Int) < (C : Int) + 1 := by omega
                        have hfl := failA_length inn n ctr bal preS nm k
                        obtain ⟨ga, gc, hgu, hgle⟩ := owns_slice9 hL.ef
                        subst hgu
                        obtain ⟨i9, hi, hz0, hz1, hz2⟩ := info_parts Yba.info9
                        obtain ⟨gd, cap, w1, hrun, hown, hgrow, hat, hglt⟩ := run_append_lies (P := Yba.prog) (wc.alloc (.cells #[.string (nm k)] 9)) 25 25 w5.heap.size 9 i9 (.string ⟨#[]⟩) 1 16 Yba.underlying25 hi hz0 hz1 hz2 rfl (by decide) _ (failA inn n ctr bal preS nm k).length _ (hL.ef.alloc _) ⟨wc.heap.size, 0, none⟩ 1 1 [.string (nm k)] rfl (World.news_of_block (heap_alloc_new _ _)) (by intro u hu; simp at hu; subst hu; rfl) (by decide) (by unfold maxLen; omega) (by omega) (by have := hL.below.size; simp; omega) (wc.heap.size + 1) (by simp)
                        rw [app_g] at hrun
                        have HG := hide (And.intro hL (And.intro hgrow (And.intro hown hp)))
                        clear hi hz0 hz1 hz2 hL hR hO hP hIr hgrow hown hat hglt hp
                        go_wp2
                        go_roundg (C - (k + 1))
                        case measure => omega
                        case rel =>
                          have hnp : (wonI inn n ctr bal k).p = false := by rw [HWJ.out]; exact HG.out.2.2.2
                          exact ⟨k + 1, by go_num, by omega, fail_step HG.out.1 HG.out.2.1 HG.out.2.2.1 hnp⟩
                  · have hqw : decide ((q : Int) < 2 * (cnt f (f j) q : Int)) = false := decide_eq_false (by omega)
                    have hqw2 : decide (q < 2 * cnt f (f j) q) = false := decide_eq_false hwin
                    go_wp2
                    go_roundg (q - (j + 1))
                    case measure => omega
                    case rel =>
                      have hbd : Below w10.heap.size w10 (w10.drewN m) := ⟨rfl, rfl, rfl, Nat.le_refl _, fun _ _ => rfl⟩
                      refine ⟨j + 1, rfl, by go_num, by omega, HM.out.1.later hbd, HM.out.2.1, HM.out.2.2.1, HM.out.2.2.2.1, fun j' h => ?_⟩
                      by_cases e : j' = j
                      · rw [e]; exact hwin
                      · exact HM.out.2.2.2.2 j' (by omega)
            · obtain rfl : j = L := by omega
              have hWj : wonI inn n ctr bal k = ⟨0, false⟩ := by rw [HF.out.2.1, maj_none hnw]
              have HWJ := hide hWj
              have hIr := HW.out.2.1.keep (GB.of_below hL.below)
              have nk := hIr.names k (by omega)
              have hkC : (k : Int) < (C : Int) + 1 := by omega
              have hfl := failA_length inn n ctr bal preS nm k
              obtain ⟨ga, gc, hgu, hgle⟩ := owns_slice9 hL.ef
              subst hgu
              obtain ⟨i9, hi, hz0, hz1, hz2⟩ := info_parts Yba.info9
              obtain ⟨gd, cap, w1, hrun, hown, hgrow, hat, hglt⟩ := run_append_lies (P := Yba.prog) (wr.alloc (.cells #[.string (nm k)] 9)) 25 25 w5.heap.size 9 i9 (.string ⟨#[]⟩) 1 16 Yba.underlying25 hi hz0 hz1 hz2 rfl (by decide) _ (failA inn n ctr bal preS nm k).length _ (hL.ef.alloc _) ⟨wr.heap.size, 0, none⟩ 1 1 [.string (nm k)] rfl (World.news_of_block (heap_alloc_new _ _)) (by intro u hu; simp at hu; subst hu; rfl) (by decide) (by unfold maxLen; omega) (by omega) (by have := hL.below.size; simp; omega) (wr.heap.size + 1) (by simp)
              rw [app_g] at hrun
              have HG := hide (And.intro hL (And.intro hgrow hown))
              clear hi hz0 hz1 hz2 hL hR hO hP hIr hgrow hown hat hglt hWj hnw
              go_wp2
              go_roundg (C - (k + 1))
              case measure => omega
              case rel =>
                have hnp : (wonI inn n ctr bal k).p = false := by rw [HWJ.out]
                exact ⟨k + 1, by go_num, by omega, fail_step HG.out.1 HG.out.2.1 HG.out.2.2 hnp⟩
    · obtain rfl : k = C := by omega
      have hfl := failA_length inn N ctr bal preS nm k
      obtain ⟨g, gcap, rfl, -, -⟩ := hL.ef.form (by omega)
      have hV5 := HW.out.2.2.1
      have r1 := (hL.below.cell (p := ⟨rb, 1, none⟩) hV5.rlt).trans hV5.r1
      have r2 := (hL.below.cell (p := ⟨rb, 2, none⟩) hV5.rlt).trans hV5.r2
      have r5 := (hL.below.cell (p := ⟨rb, 5, none⟩) hV5.rlt).trans hV5.r5
      have hIr := HW.out.2.1.keep (GB.of_below hL.below)
      have c6' := hIr.c6
      have k8 := eqS_any fb g (failA inn N ctr bal preS nm k).length 8 gcap (fun i => (failA inn N ctr bal preS nm k)[i]?.getD preS) wr (by omega)
        (fun i hi => by
          obtain ⟨cur, h1, _, h3⟩ := hV5.fail
          have e := List.getElem?_eq_getElem hi
          rw [e]
          exact (hL.below.cell (p := ⟨fb, i, none⟩) hV5.fail.lt).trans ((cell_of_row _ _ _ _ _ _ h1).trans (h3 i _ e)))
        (fun i hi => by
          have h0 := (RowGe.of_owns (f := fun i => Value.string ((failA inn N ctr bal preS nm k)[i]?.getD preS)) hL.ef (fun i hi => by simp [hi]))
          exact h0.cell hi)
      have k9 : ∀ m, _ := fun m => eqI_any eb ecb (k + 1) (k + 1) ecap (cellA inn N ctr bal start k) (wr.drewN m) (by omega) (fun i hi => (hL.below.cell (p := ⟨eb, i, none⟩) hV5.cells.lt).trans (hV5.cells.cell hi)) (fun i hi => hL.ec.cell hi)
      have k10 : ∀ m, _ := fun m => eqB_any lb elb N N N (lostA inn N ctr bal k) (wr.drewN m) (by omega) (fun i hi => (hL.below.cell (p := ⟨lb, i, none⟩) hV5.lost.lt).trans (hV5.lost.cell hi)) (fun i hi => hL.el.cell hi)
      have KK := hide (And.intro k8 (And.intro k9 k10))
      have HLL := hide hL.below
      clear hL hV5 hIr k8 k9 k10
      go_wp2_with (first | (go_at_call 8; refine KK.out.1.mono ?_; rintro e w' ⟨rfl, m1, rfl⟩) | (go_at_call 9; refine (KK.out.2.1 _).mono ?_; rintro e w' ⟨rfl, m2, rfl⟩) | (go_at_call 10; refine (KK.out.2.2 _).mono ?_; rintro e w' ⟨rfl, m3, rfl⟩))
      go_ret
      have hbb := HW.out.1.trans (HLL.out.mono HW.out.1.size)
      exact ⟨rfl, ⟨hbb.os, hbb.tape, hbb.output, hbb.size, hbb.block⟩⟩

end Go.Proofs.Ybulkbbgw.Vo
