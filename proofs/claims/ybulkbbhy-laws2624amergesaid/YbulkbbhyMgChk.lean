/-
  THE WALK of trigrove.LawS2624AMerge (3): its second half, the checking.
-/
import Derived.Test.YbulkbbhyMgMem
import Derived.Test.YbulkbbhyMgNext
import Derived.Laws.MakeOwn
namespace Go.Proofs.Ybulkbbhy.Mg
open Go.RowKit
attribute [local go_sem ↓] app_g
theorem Yba.info40 : (Yba.prog.info? 40).map (fun i => (i.zero, i.size, i.bytes)) = some (some (.agg #[.int .u32 0, .int .u32 0, .int .u64 0, .slice none 0 0, .slice none 0 0, .slice none 0 0, .int .u64 0, .int .u64 0, .int .u64 0, .slice none 0 0]), 10, 136) := by kernel_rfl
theorem Yba.info36 : (Yba.prog.info? 36).map (fun i => (i.zero, i.size, i.bytes)) = some (some (.agg #[.int .u64 0, .int .i64 0, .int .i64 0, .int .u32 0]), 4, 32) := by kernel_rfl
theorem Yba.info5 : (Yba.prog.info? 5).map (fun i => (i.zero, i.size, i.bytes)) = some (some (.int .u8 0), 1, 1) := by kernel_rfl

theorem run_make_gen {P : Program} (t e : TypeId) (z : Value) (size bytes : Nat) (ht : P.underlying t = some (.slice e)) (hinfo : (P.info? e).map (fun i => (i.zero, i.size, i.bytes)) = some (some z, size, bytes))
    (l c : Nat) (hlc : l ≤ c) (hb : bytes * c ≤ 281474976710656) (hc : c ≤ 9223372036854775807) (w : World) :
    (Instr.makeSlice t (.int .i64 (l : Int)) (.int .i64 (c : Int))).run P w = .ok (.slice (some ⟨w.heap.size, 0, none⟩) l c) (w.alloc (.cells (madeCells z.cells (c * size)) e)) := by
  obtain ⟨i, hi, hzz⟩ := Option.map_eq_some_iff.1 hinfo
  simp only [Prod.mk.injEq] at hzz
  obtain ⟨hz, hs, hbb⟩ := hzz
  have hb' : (i.bytes : Int) * (c : Int) ≤ 281474976710656 := by
    rw [hbb]
    have h : ((bytes * c : Nat) : Int) ≤ 281474976710656 := by omega
    rwa [Int.natCast_mul] at h
  have hr := run_make (P := P) w t e i z ht hi hz .i64 .i64 l c (by omega) (by omega) hb' (by omega)
  simp only [Int.toNat_natCast, hs] at hr
  exact hr

/-- The number of entries of the first s lists. -/
def tot (n : Nat → Nat) : Nat → Nat
  | 0 => 0
  | s + 1 => tot n s + n s
theorem tot_le (n : Nat → Nat) {a b : Nat} (h : a ≤ b) : tot n a ≤ tot n b := by
  induction b with
  | zero => have : a = 0 := by omega
            subst this; exact Nat.le_refl _
  | succ b ih =>
    by_cases e : a = b + 1
    · subst e; exact Nat.le_refl _
    · have := ih (by omega); simp only [tot]; omega

/-- What the walk is told of the lists that came in. -/
structure InAt (w : World) (a : Option Addr) (b o S : Nat) (n lc lb lo : Nat → Nat) (la : Nat → Option Addr) (stp cnt : Nat → Nat → Nat) : Prop where
  ad : 0 < S → a = some ⟨b, o, none⟩ ∧ b < w.heap.size
  c : ∀ s, s < S → w.cell? ⟨b, o + s, none⟩ = some (.slice (la s) (n s) (lc s))
  ea : ∀ s, s < S → 0 < n s → la s = some ⟨lb s, lo s, none⟩ ∧ lb s < w.heap.size
  e0 : ∀ s i, s < S → i < n s → w.cell? ⟨lb s, lo s + i * 2, none⟩ = some (.int .u8 (stp s i))
  e1 : ∀ s i, s < S → i < n s → w.cell? ⟨lb s, lo s + i * 2 + 1, none⟩ = some (.int .u32 (cnt s i))
  mx : ∀ s, s < S → n s ≤ 17592186043904
  hs : ∀ s i, stp s i < 256
  hc : ∀ s i, cnt s i < 4294967296

theorem L2.start (w : World) (S T : Nat) (n DB : Nat → Nat) (key cnt : Nat → Nat → Nat) (it : Nat → Pl) :
    L2 w ((w.alloc (.cells (madeCells #[.int .u32 0, .int .u32 0, .int .u64 0, .slice none 0 0, .slice none 0 0, .slice none 0 0, .int .u64 0, .int .u64 0, .int .u64 0, .slice none 0 0] (S * 10)) 40)).alloc (.cells (madeCells #[.int .u64 0, .int .i64 0, .int .i64 0, .int .u32 0] (T * 4)) 36)) w.heap.size (w.heap.size + 1) S T 0 0 n DB key cnt it where
  below := ((Below.refl _ _).alloc (Nat.le_refl _) _).alloc (by simp) _
  row := ⟨_, (Below.heap_alloc _ _ _ (by simp)).trans (heap_alloc_new _ _), size_madeCells _ _⟩
  seg := ⟨fun s h => by omega, fun s h => by omega, fun s h => by omega, fun s h => by omega, fun s h => by omega, fun s h => by omega, fun s h => by omega, by simp; omega⟩
  its := ⟨_, by have := heap_alloc_new (w.alloc (.cells (madeCells #[.int .u32 0, .int .u32 0, .int .u64 0, .slice none 0 0, .slice none 0 0, .slice none 0 0, .int .u64 0, .int .u64 0, .int .u64 0, .slice none 0 0] (S * 10)) 40)) (.cells (madeCells #[.int .u64 0, .int .i64 0, .int .i64 0, .int .u32 0] (T * 4)) 36); simpa using this, size_madeCells _ _, fun j h => by omega⟩
  hSB := Nat.le_refl _
  hIB := by omega
  db := fun t h => by omega
  srt := Its.zero _ _ _

theorem L2.three {w wr : World} {SB IB S T m s : Nat} {n DB : Nat → Nat} {key cnt : Nat → Nat → Nat} {it : Nat → Pl} (H : L2 w wr SB IB S T m s n DB key cnt it) {N : Nat} {k c : Nat → Nat} : L3 wr (wr.alloc (.cells (madeCells #[.int .u8 0] N) 5)) IB T m cnt it wr.heap.size N k c 0 0 :=
  ⟨grown_alloc _ _ _, H.its.of_block (Below.heap_alloc _ _ _ H.its.lt), Dir.zero ⟨_, heap_alloc_new _ _, size_madeCells _ _⟩, Nat.le_refl _⟩
theorem keyF_up (stp : Nat → Nat → Nat) (s a b : Nat) (h : a < b) : keyF stp s a < keyF stp s b := psum_lt (stp s) (i := a + 1) (j := b + 1) (Nat.succ_lt_succ h)
theorem keyF_eq (stp : Nat → Nat → Nat) (s j : Nat) : Value.int .u64 (keyF stp s j : Nat) = Value.int .u64 (psum (stp s) (j + 1) : Nat) := rfl
theorem its_done {stp cnt : Nat → Nat → Nat} {n ks cs : Nat → Nat} {it : Nat → Pl} {w0 wx wy : World} {m j t M IB T q db N : Nat} (hI : Its n (keyF stp) it (m + j) t j) (hM : m + j = M) (hj : j < n t) (hq : q ≤ M)
    (h4 : L3 w0 wx IB T (M + 1) cnt (insA it ⟨keyF stp t j, t, j⟩ q) db N ks cs j 3) (hb : Below wx.heap.size wx wy)
    (hab : ∀ y, q ≤ y → y < M → ltP ⟨keyF stp t j, t, j⟩ (it y)) (hst : q = 0 ∨ ¬ ltP ⟨keyF stp t j, t, j⟩ (it (q - 1))) :
    ∃ it', Value.slice (some ⟨IB, 0, none⟩) (M + 1) T = Value.slice (some ⟨IB, 0, none⟩) (m + (j + 1)) T ∧ Value.int .u64 (keyF stp t j : Nat) = Value.int .u64 (psum (stp t) (j + 1) : Nat) ∧ L3 w0 wy IB T (m + (j + 1)) cnt it' db N ks cs (j + 1) 0 ∧ Its n (keyF stp) it' (m + (j + 1)) t (j + 1) := by
  subst hM
  have e : m + (j + 1) = m + j + 1 := by omega
  rw [e]
  exact ⟨_, rfl, keyF_eq _ _ _, h4.more.later hb, hI.ins hj (fun a b h _ => keyF_up _ _ _ _ h) hq hab hst⟩
theorem n_le_tot (n : Nat → Nat) {s S : Nat} (h : s < S) : n s ≤ tot n S := Nat.le_trans (Nat.le_add_left _ _) (tot_le n (a := s + 1) (b := S) h)
theorem nums_of {S : Nat} {n : Nat → Nat} {stp cnt : Nat → Nat → Nat} (hT : tot n S ≤ 1024) (hc : ∀ s i, cnt s i < 4294967296) : Nums S n (keyF stp) cnt where
  hn := fun s hs => by have := n_le_tot n hs; omega
  hk := fun s i hs hi => by
    have h1 := n_le_tot n hs
    have h2 := psum_le (stp s) (i + 1)
    have : keyF stp s i ≤ 4096 := by show psum (stp s) (i + 1) ≤ 4096; omega
    have : (256 : Nat) ^ 8 = 18446744073709551616 := by decide
    omega
  hc := fun s i _ _ => by have := hc s i; have : (256 : Nat) ^ 4 = 4294967296 := by decide
                          omega
  up := fun s i j _ h _ => keyF_up stp s i j h
theorem NewInv2.mst {w wr : World} {SB S hn cap g : Nat} {n : Nat → Nat} {key : Nat → Nat → Nat} {ao : Option Addr} {h : Nat → Pl} (H : NewInv2 w wr SB S n key ao hn cap g h) (hok : Ok h hn 0) :
    MSt w.heap.size wr w.heap.size SB S n key (fun _ => 0) ao hn cap g h (.slice none 0 0) 0 (fun _ => ⟨0, 0, 0⟩) 0 where
  m := H.m
  hB := Nat.le_refl _
  ao := fun h0 => ⟨(H.ao h0).1, by have := (H.ao h0).2.1; omega, (H.ao h0).2.2, by simp [Value.ownBlock]⟩
  held := World.ownsRow_nil _ _ _ _
  heads := H.heads
  ok := hok
  le := H.le
theorem NL.mst {B MB SB S T gI t hn hcap g : Nat} {w wr wz : World} {n pos : Nat → Nat} {key cnt : Nat → Nat → Nat} {it h : Nat → Pl} {dv : Value} (H : NL B w wr MB SB S T gI t n key cnt it pos hn hcap g h dv) (hb : Below wr.heap.size wr wz) :
    MSt B wz MB SB S n key pos (some ⟨g, 0, none⟩) hn hcap g h dv t (fun j => it (gI + j)) (sumC cnt it gI t) := by
  have h1 := H.ns.later hb
  exact ⟨h1.m, h1.hB, fun _ => ⟨rfl, h1.gB, h1.blk, h1.gd⟩, h1.held, H.heads, H.ok, H.le⟩

set_option maxRecDepth 20000 in
set_option maxHeartbeats 2000000 in
theorem law_long (w : World) (a : Option Addr) (S cap : Nat) (hS : 256 < S) :
    Calls Yba.prog 3 #[.slice a S cap] w fun e w' => e = .returned (.bool true) ∧ Below w.heap.size w w' := by
  have h : (256 : Int) < (S : Int) := by omega
  go_enter Yba.func3, Yba.ntmps3
  go_wp2
  go_ret
  exact ⟨rfl, Below.refl _ _⟩

/-- The code from region 36 on: that region, and what follows it. -/
def split36 : Code → Option (Code × Code)
  | .seq (.region 36 ops b) r => some (.region 36 ops b, r)
  | .seq a r => match split36 a with
    | some x => some x
    | none => split36 r
  | .block _ c => split36 c
  | .scope c => split36 c
  | .cond _ a b => match split36 a with
    | some x => some x
    | none => split36 b
  | _ => none
noncomputable def pairB : Code × Code := (Yba.f3.body.bind split36).getD (.skip, .skip)

set_option maxRecDepth 1000000 in
set_option maxHeartbeats 40000000 in
/-- THE CHECKING: from newMergedLists on. -/
theorem partB (w w1 : World) (t m : Nat) (n DB : Nat → Nat) (stp cnt : Nat → Nat → Nat) (it : Nat → Pl) (hT : tot n t = m) (ht : m ≤ 1024) (hS : t ≤ 256) (hc : ∀ s i, cnt s i < 4294967296)
    (hL : L2 w w1 w.heap.size (w.heap.size + 1) t m m t n DB (keyF stp) cnt it) (c0 c1 c2 c4 c5 c8 c9 c10 c11 c12 c13 c14 c15 c16 c17 c18 c19 c20 c21 c22 c23 c24 c25 c26 c27 c28 c29 c30 c31 c32 c33 c34 c35 c36 c37 c38 c39 c40 c41 c42 c43 c44 c45 c46 c47 c48 c49 c50 c51 c52 c53 c54 c55 c56 c57 c58 c59 c60 c61 c62 c63 c64 c65 c66 c67 c68 c69 c70 c71 c72 c73 c74 c75 c76 c77 c78 c79 c80 c81 c82 c83 c84 c85 c86 c87 c88 c89 c90 c91 c92 c93 c94 c95 c96 c97 c98 c99 c100 c101 c102 c103 c104 c105 c106 c107 c108 c109 c110 c111 c112 c113 c114 c115 c116 c117 c118 c119 c120 c121 c122 c123 c124 c125 c126 c127 c128 c129 c130 c131 c132 c133 c134 c135 c136 c137 c138 c139 c140 c141 c142 c143 c144 c145 c146 c147 c148 c149 c150 c151 c152 c153 c154 c155 c156 c157 c158 c159 c160 c161 c162 c163 c164 c165 c166 c167 c168 c169 c170 c171 c172 c173 c174 c175 c176 c177 c178 c179 c180 c181 c182 c183 c184 c185 c186 c187 c188 c189 c190 c191 c192 c193 c194 c195 c196 c197 c198 c199 c200 c201 c202 c203 c204 c205 c206 c207 c208 c209 c210 c211 c212 c213 c214 c215 c216 c217 c218 c219 c220 c221 c222 c223 c224 c225 c226 c227 c228 c229 c230 c231 c232 c233 c234 c235 c236 c237 c238 c239 c240 c241 c242 c243 c244 c245 c246 c247 c248 c249 c250 c251 c252 c253 c254 c255 c256 c257 c258 c259 c260 c261 c262 c263 c264 c265 c266 c267 c268 c269 c270 c271 c272 c273 c274 c275 c276 c277 c278 c279 c280 c281 c282 c283 c284 c285 : Value) (K : Act → World → Prop)
    (hK : ∀ a v, Code.wp Yba.prog pairB.2 (bodyPost Yba.prog Yba.f3 fun e w' => e = .returned (.bool true) ∧ Below w.heap.size w w') a v → K a v) :
    Code.wp Yba.prog pairB.1 (Exit.then K (bodyPost Yba.prog Yba.f3 fun e w' => e = .returned (.bool true) ∧ Below w.heap.size w w')) ⟨#[c0, c1, c2, .int .i64 m, c4, c5, .slice (some ⟨w.heap.size, 0, none⟩) t t, .slice (some ⟨w.heap.size + 1, 0, none⟩) m m, c8, c9, c10, c11, c12, c13, c14, c15, c16, c17, c18, c19, c20, c21, c22, c23, c24, c25, c26, c27, c28, c29, c30, c31, c32, c33, c34, c35, c36, c37, c38, c39, c40, c41, c42, c43, c44, c45, c46, c47, c48, c49, c50, c51, c52, c53, c54, c55, c56, c57, c58, c59, c60, c61, c62, c63, c64, c65, c66, c67, c68, c69, c70, c71, c72, c73, c74, c75, c76, c77, c78, c79, c80, c81, c82, c83, c84, c85, c86, c87, c88, c89, c90, c91, c92, c93, c94, c95, c96, c97, c98, c99, c100, c101, c102, c103, c104, c105, c106, c107, c108, c109, c110, c111, c112, c113, c114, c115, c116, c117, c118, c119, c120, c121, c122, c123, c124, c125, c126, c127, c128, c129, c130, c131, c132, c133, c134, c135, c136, c137, c138, c139, c140, c141, c142, c143, c144, c145, c146, c147, c148, c149, c150, c151, c152, c153, c154, c155, c156, c157, c158, c159, c160, c161, c162, c163, c164, c165, c166, c167, c168, c169, c170, c171, c172, c173, c174, c175, c176, c177, c178, c179, c180, c181, c182, c183, c184, c185, c186, c187, c188, c189, c190, c191, c192, c193, c194, c195, c196, c197, c198, c199, c200, c201, c202, c203, c204, c205, c206, c207, c208, c209, c210, c211, c212, c213, c214, c215, c216, c217, c218, c219, c220, c221, c222, c223, c224, c225, c226, c227, c228, c229, c230, c231, c232, c233, c234, c235, c236, c237, c238, c239, c240, c241, c242, c243, c244, c245, c246, c247, c248, c249, c250, c251, c252, c253, c254, c255, c256, c257, c258, c259, c260, c261, c262, c263, c264, c265, c266, c267, c268, c269, c270, c271, c272, c273, c274, c275, c276, c277, c278, c279, c280, c281, c282, c283, c284, c285], []⟩ w1 := by
  have hN := nums_of (S := t) (n := n) (stp := stp) (cnt := cnt) (by rw [hT]; exact ht) hc
  conv => arg 2; whnf
  conv at hK => enter [a, v, 1, 2]; whnf
  have K9 := hide (new_any w.heap.size t n DB (keyF stp) cnt w1 hL.seg hN hS)
  have HL := hide (And.intro hL hN)
  clear hL hN
  go_wp2_with (go_at_call 9; refine K9.out.mono ?_; rintro e w2 ⟨rfl, ao, hn, hcap, g, h, hnew, hok⟩; have HNW := hide (And.intro hnew hok); clear hnew hok)
  go_loopg [18, 19] m (fun gk x y wx => ∃ (gI call hn hcap g dn : Nat) (pos : Nat → Nat) (ao : Option Addr) (h d : Nat → Pl) (dv : Value) (c : Int), x = .int .i64 gI ∧ y = .int .i64 call ∧ gk + gI = m ∧ call ≤ gI ∧ Below w1.heap.size w1 wx ∧ MSt w1.heap.size wx w1.heap.size w.heap.size t n (keyF stp) pos ao hn hcap g h dv dn d c ∧ Rep t n (keyF stp) it m gI pos)
  case atStart => exact ⟨0, 0, hn, hcap, g, 0, fun _ => 0, ao, h, fun _ => ⟨0, 0, 0⟩, .slice none 0 0, 0, rfl, rfl, by omega, Nat.le_refl _, HNW.out.1.below, HNW.out.1.mst HNW.out.2, HL.out.1.srt.rep⟩
  case round =>
    clear K9 HNW
    obtain ⟨gI, call, hn, hcap, g, dn, pos, ao, h, d, dv, c, rfl, rfl, hgk5, hcg, hbel, hM, hR⟩ := hrel
    have hqc : (call : Int) ≤ (m : Int) := by omega
    have hIB := HL.out.1.its.lt
    by_cases hlt5 : gI < m
    · have hSg := HL.out.1.seg.later hbel
      have KN := hide (next_some w1.heap.size w1.heap.size w.heap.size t m gI hn hcap g dn n DB pos (keyF stp) cnt it h d dv ao c wr hSg HL.out.1.row.lt HL.out.1.seg.lt HL.out.2 hM hR hlt5 (by omega) hS)
      have hI5 := HL.out.1.its.of_block (hbel.block _ hIB)
      have HBEL := hide (And.intro hbel (And.intro hR hI5))
      have hqg : (gI : Int) < (m : Int) := by omega
      have hqg2 : decide ((m : Int) ≤ (gI : Int)) = false := decide_eq_false (by omega)
      have hqg3 : decide (m ≤ gI) = false := decide_eq_false (by omega)
      clear hSg hM hI5 hbel hR
      go_wp2_with (go_at_call 10; refine KN.out.mono ?_; rintro e w2 ⟨t2, hn2, hcap2, h2, dv2, pos2, rfl, ht0, hne, hNL⟩; have i0 := ((HBEL.out.2.2.of_block (hNL.ns.below.block _ hIB)).c0 (j := gI) hlt5); have HNL := hide (And.intro hne hNL); clear hne hNL)
      go_loopg [18, 23, 24] t2 (fun gk x wv y wz => ∃ xh : Nat, x = .int .i64 ((gI : Int) + xh) ∧ wv = .int .u32 (sumC cnt it gI xh) ∧ y = .int .i64 xh ∧ gk + xh = t2 ∧ Below w2.heap.size w2 wz)
      case atStart => exact ⟨0, congrArg (Value.int .i64) (by omega), rfl, rfl, by omega, Below.refl _ _⟩
      case round =>
        clear KN i0
        obtain ⟨xh, rfl, rfl, rfl, hgk6, hb6⟩ := hrel
        have hns := HNL.out.2.ns.later hb6
        have hgm : gI + t2 ≤ m := HNL.out.2.rep.le
        have m2 := hns.m.c2
        have m3 := hns.m.c3
        have hI6 := HBEL.out.2.2.of_block (hns.below.block _ hIB)
        obtain ⟨gd, dcap, rfl, -, -⟩ := hns.held.form ht0
        by_cases hx : xh < t2
        · have hP := PlBlk.of_owns hns.held
          have p0 := hP.c0 hx
          have p1 := hP.c1 hx
          have p2 := hP.c2 hx
          have c0 := hI6.c0 (j := gI + xh) (by omega)
          have c1 := hI6.c1 (j := gI + xh) (by omega)
          have c2 := hI6.c2 (j := gI + xh) (by omega)
          have c3 := hI6.c3 (j := gI + xh) (by omega)
          have hsk := HNL.out.2.same (gI + xh) (by omega) (by omega)
          rw [hsk] at p0 c0
          have hsum : sumC cnt it gI (xh + 1) = IntKind.u32.wrap (sumC cnt it gI xh + cnt (it (gI + xh)).s (it (gI + xh)).i) := rfl
          have HS := hide hsum
          have hq1 : (gI : Int) + (xh : Int) < (m : Int) := by omega
          have hq2 : (xh : Int) < (t2 : Int) := by omega
          have hq3 : decide ((t2 : Int) ≤ (xh : Int)) = false := decide_eq_false (by omega)
          have hMlt := hns.m.lt
          have hPlt := hP.lt
          have hq5 : ((gI : Int) + (xh : Int)).toNat = gI + xh := by omega
          have HB6 := hide hb6
          clear hsum hsk hns hI6 hP hb6 m3
          generalize it (gI + xh) = P at p1 p2 c1 c2 c3 HS
          go_upto_region 50 with fail
          go_quiet (fail)
          go_wp2
          go_roundg (t2 - (xh + 1))
          case measure => omega
          case rel => exact ⟨xh + 1, congrArg (Value.int .i64) (by omega), congrArg (Value.int .u32) HS.out.symm, by go_num, by omega, below_draws nq (HB6.out.alloc HB6.out.size _)⟩
        · obtain rfl : xh = t2 := by omega
          by_cases hend : gI + xh < m
          · have c0 := hI6.c0 (j := gI + xh) hend
            have hkn : (((it (gI + xh)).k : Int) == ((it gI).k : Int)) = false := by have := HNL.out.1 hend; simp; omega
            have hq1 : (gI : Int) + (xh : Int) < (m : Int) := by omega
            have hq5 : ((gI : Int) + (xh : Int)).toNat = gI + xh := by omega
            have HB6 := hide hb6
            clear hns hI6 hb6
            go_wp2
            go_roundg (m - (gI + xh))
            case measure => omega
            case rel => exact ⟨gI + xh, call + 1, hn2, hcap2, g, xh, pos2, some ⟨g, 0, none⟩, h2, fun j => it (gI + j), _, sumC cnt it gI xh, congrArg (Value.int .i64) (by omega), by go_num, by omega, by omega, HBEL.out.1.trans (HNL.out.2.ns.below.trans (HB6.out.mono HNL.out.2.ns.sz)), HNL.out.2.mst HB6.out, HNL.out.2.rep⟩
          · have hq1 : decide ((gI : Int) + (xh : Int) < (m : Int)) = false := decide_eq_false (by omega)
            have HB6 := hide hb6
            clear hns hI6 hb6
            go_wp2
            go_roundg (m - (gI + xh))
            case measure => omega
            case rel => exact ⟨gI + xh, call + 1, hn2, hcap2, g, xh, pos2, some ⟨g, 0, none⟩, h2, fun j => it (gI + j), _, sumC cnt it gI xh, congrArg (Value.int .i64) (by omega), by go_num, by omega, by omega, HBEL.out.1.trans (HNL.out.2.ns.below.trans (HB6.out.mono HNL.out.2.ns.sz)), HNL.out.2.mst HB6.out, HNL.out.2.rep⟩
    · obtain rfl : gI = m := by omega
      obtain rfl : hn = 0 := by have := hR.some hM.heads; omega
      have KN := hide (next_none w1.heap.size w1.heap.size _ ao hcap dv dn _ c wr hM.m hM.hB hM.held)
      have HB := hide (And.intro hbel (And.intro hM hR))
      clear hbel hM hR
      go_wp2_with (go_at_call 10; refine KN.out.mono ?_; rintro e w2 ⟨rfl, hb2, a', cap', hd⟩; have HB2 := hide hb2; clear hb2)
      go_ret
      exact ⟨rfl, HL.out.1.below.trans ((HB.out.1.trans HB2.out).mono HL.out.1.below.size)⟩

end Go.Proofs.Ybulkbbhy.Mg
