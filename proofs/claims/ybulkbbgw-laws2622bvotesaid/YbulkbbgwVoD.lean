/-
  newConfiguration (11) BY ITS CONTRACT: seven makes in whatever order.
-/
import Derived.Test.YbulkbbgwVoC
import Derived.Laws.MakeOwn
import Derived.Orders
namespace Go.Proofs.Ybulkbbgw.Vo
open Go.RowKit

/-! ### Some operations of a region in whatever order, by an invariant -/
def subs : List Nat → List (List Nat)
  | [] => [[]]
  | x :: xs => subs xs ++ (subs xs).map (x :: ·)
def listedOf (sz : Nat) (un : List Nat) : Array Bool := (Array.range sz).map fun i => !un.contains i

theorem wpAny_pool {P : Program} {ops : Array Oper} {Q : Exit → Act → World → Prop} {md : Region.Mode} (makes rest : List Nat) (f : Nat) (J : List Nat → Act → World → Prop)
    (hr : ((subs makes).all fun p => p.isEmpty || (Region.ready md ops (listedOf ops.size (p ++ rest)) == p)) = true)
    (hs : ((subs makes).all fun p => p.all fun i => ((listedOf ops.size (p ++ rest)).setIfInBounds i true == listedOf ops.size (p.erase i ++ rest)) && (subs makes).contains (p.erase i)) = true)
    (hstep : ∀ p i a w, p ∈ subs makes → i ∈ p → J p a w → wpOp P ops Q i (fun a' w' => J (p.erase i) a' w') a w)
    (hend : ∀ a w, J [] a w → wpAny P md ops Q f (listedOf ops.size rest) a w) :
    ∀ (k : Nat) (p : List Nat), p.length = k → p ∈ subs makes → ∀ a w, J p a w → wpAny P md ops Q (k + f) (listedOf ops.size (p ++ rest)) a w := by
  intro k
  induction k with
  | zero =>
    intro p hp _ a w hJ
    have : p = [] := List.eq_nil_of_length_eq_zero hp
    subst this
    rw [Nat.zero_add]
    exact hend a w hJ
  | succ k ih =>
    intro p hp hm a w hJ
    have hne : p ≠ [] := by rintro rfl; simp at hp
    have h1 := List.all_eq_true.1 hr p hm
    have h2 := List.all_eq_true.1 hs p hm
    have h1' : Region.ready md ops (listedOf ops.size (p ++ rest)) = p := by
      cases p with
      | nil => exact absurd rfl hne
      | cons x xs => simpa using h1
    rw [show k + 1 + f = k + f + 1 by omega]
    refine wpAny_all h1' hne fun i hi => ?_
    have h3 := List.all_eq_true.1 h2 i hi
    rw [Bool.and_eq_true] at h3
    have h4 : (listedOf ops.size (p ++ rest)).setIfInBounds i true = listedOf ops.size (p.erase i ++ rest) := by simpa using h3.1
    have h5 : p.erase i ∈ subs makes := by simpa using h3.2
    rw [h4]
    exact wpOp_mono (fun a' w' hJ' => ih (p.erase i) (by rw [List.length_erase_of_mem hi, hp]; rfl) h5 a' w' hJ') (hstep p i a w hm hi hJ)

theorem wpOp_make {P : Program} {ops : Array Oper} {Q : Exit → Act → World → Prop} {i : Nat} {o : Oper} {t : TypeId} {k : Tmp} {a : Act} {w w' : World} {K : Act → World → Prop} {x v : Value} (hi : ops[i]? = some o) (hop : o.op = .makeSlice t (.tmp k) (.tmp k)) (hg : o.guard = none)
    (hx : a.eval (.tmp k) = x) (hrun : (Instr.makeSlice t x x).run P w = .ok v w') (h : K (a.put o.dst v) w') : wpOp P ops Q i K a w := by
  unfold wpOp
  simp only [hi, Region.wanted, hg, if_true]
  refine .inl ?_
  unfold Oper.wp
  simp [execOp, hop, hx, hrun, Result.andThen, Oper.upon]
  exact h

theorem run_make_gen {P : Program} (t e : TypeId) (z : Value) (bytes : Nat) (ht : P.underlying t = some (.slice e)) (hinfo : (P.info? e).map (fun i => (i.zero, i.size, i.bytes)) = some (some z, 1, bytes)) (hz1 : z.cells = #[z])
    (l c : Nat) (hlc : l ≤ c) (hb : bytes * c ≤ 281474976710656) (hc : c ≤ 9223372036854775807) (w : World) :
    (Instr.makeSlice t (.int .i64 (l : Int)) (.int .i64 (c : Int))).run P w = .ok (.slice (some ⟨w.heap.size, 0, none⟩) l c) (w.alloc (.cells (madeCells #[z] c) e)) := by
  obtain ⟨i, hi, hzz⟩ := Option.map_eq_some_iff.1 hinfo
  simp only [Prod.mk.injEq] at hzz
  obtain ⟨hz, hs, hbb⟩ := hzz
  have hb' : (i.bytes : Int) * (c : Int) ≤ 281474976710656 := by
    rw [hbb]
    have h : ((bytes * c : Nat) : Int) ≤ 281474976710656 := by omega
    rwa [Int.natCast_mul] at h
  have hr := run_make (P := P) w t e i z ht hi hz .i64 .i64 l c (by omega) (by omega) hb' (by omega)
  simp only [Int.toNat_natCast, hs, hz1, Nat.mul_one] at hr
  exact hr
theorem Yba.info4 : (Yba.prog.info? 4).map (fun i => (i.zero, i.size, i.bytes)) = some (some (.bool false), 1, 1) := by kernel_rfl
theorem Yba.info3 : (Yba.prog.info? 3).map (fun i => (i.zero, i.size, i.bytes)) = some (some (.int .i64 0), 1, 8) := by kernel_rfl
theorem Yba.info24 : (Yba.prog.info? 24).map (fun i => (i.zero, i.size, i.bytes)) = some (some (.slice none 0 0), 1, 24) := by kernel_rfl

/-- The seven makes: which element type, which zero. -/
def mkE (i : Nat) : TypeId := if i = 4 ∨ i = 15 then 3 else if i = 6 then 24 else 4
def mkZ (i : Nat) : Value := if i = 4 ∨ i = 15 then .int .i64 0 else if i = 6 then .slice none 0 0 else .bool false
def pool7 : List Nat := [2, 4, 6, 9, 11, 13, 15]

/-- Those that are made: where they lie. -/
structure MkI (w0 w : World) (N : Nat) (p : List Nat) (X : Nat → Value) (bl : Nat → Nat) : Prop where
  below : Below w0.heap.size w0 w
  val : ∀ i, i ∈ pool7 → i ∉ p → X i = .slice (some ⟨bl i, 0, none⟩) N N ∧ w0.heap.size ≤ bl i ∧ w.rowIs (bl i) (mkE i) N (fun _ => mkZ i)
  inj : ∀ i j, i ∈ pool7 → j ∈ pool7 → i ∉ p → j ∉ p → bl i = bl j → i = j

def updV (X : Nat → Value) (i : Nat) (v : Value) : Nat → Value := fun j => if j = i then v else X j
def updB (X : Nat → Nat) (i : Nat) (v : Nat) : Nat → Nat := fun j => if j = i then v else X j

theorem MkI.make {w0 w : World} {N i : Nat} {p : List Nat} {X : Nat → Value} {bl : Nat → Nat} (h : MkI w0 w N p X bl) (hp : p.Nodup) (hi : i ∈ p) :
    MkI w0 (w.alloc (.cells (madeCells #[mkZ i] N) (mkE i))) N (p.erase i) (updV X i (.slice (some ⟨w.heap.size, 0, none⟩) N N)) (updB bl i w.heap.size) := by
  have hmem : ∀ j, j ∉ p.erase i → j ≠ i → j ∉ p := fun j h1 h2 h3 => h1 ((List.mem_erase_of_ne h2).2 h3)
  have hni : i ∉ p.erase i := fun h => by have := (hp.mem_erase_iff).1 h; exact this.1 rfl
  refine ⟨h.below.alloc h.below.size _, fun j hj hjp => ?_, fun j k hj hk hjp hkp e => ?_⟩
  · by_cases e : j = i
    · subst e
      simp only [updV, updB, if_true]
      exact ⟨trivial, h.below.size, World.rowIs_made _ _ _ _⟩
    · simp only [updV, updB, if_neg e]
      obtain ⟨h1, h2, h3⟩ := h.val j hj (hmem j hjp e)
      exact ⟨h1, h2, h3.alloc _⟩
  · by_cases e1 : j = i <;> by_cases e2 : k = i
    · rw [e1, e2]
    · exfalso
      subst e1
      simp only [updB, if_true, if_neg e2] at e
      have := (h.val k hk (hmem k hkp e2)).2.2.lt
      omega
    · exfalso
      subst e2
      simp only [updB, if_true, if_neg e1] at e
      have := (h.val j hj (hmem j hjp e1)).2.2.lt
      omega
    · simp only [updB, if_neg e1, if_neg e2] at e
      exact h.inj j k hj hk (hmem j hjp e1) (hmem k hkp e2) e
theorem subs_nodup : ((subs pool7).all fun p => p.Nodup) = true := by decide +kernel


/-- What newConfiguration leaves: the struct in block cb, 'in' in ib, 'lost' in lb. -/
structure Conf (w w' : World) (N cb ib lb : Nat) : Prop where
  below : Below w.heap.size w w'
  c0 : w'.cell? ⟨cb, 0, none⟩ = some (.int .i64 0)
  c1 : w'.cell? ⟨cb, 1, none⟩ = some (.slice (some ⟨ib, 0, none⟩) N N)
  c6 : w'.cell? ⟨cb, 6, none⟩ = some (.slice (some ⟨lb, 0, none⟩) N N)
  inn : w'.rowIs ib 4 N (fun _ => .bool true)
  lost : w'.rowIs lb 4 N (fun _ => .bool false)
  ge : w.heap.size ≤ cb ∧ w.heap.size ≤ ib ∧ w.heap.size ≤ lb
  ne : cb ≠ ib ∧ cb ≠ lb ∧ ib ≠ lb


theorem take1 {P : Program} {ops : Array Oper} {Q : Exit → Act → World → Prop} {md : Region.Mode} {i : Nat} {oi : Oper} {v : Value} {fuel : Nat} {listed : Array Bool} {a : Act} {w : World} (listed' : Array Bool) (a' : Act) (hi : ops[i]? = some oi)
    (hs : Region.noSelect ops = true) (hf : Region.free md ops listed i = true) (hr : (Region.ready md ops listed).contains i = true)
    (hQ : ∀ c a w, Q (.panic c) (a.put oi.dst v) w → Q (.panic c) a w) (hy : Yields P ops oi v a) (hl : listed.setIfInBounds i true = listed') (ha : a.put oi.dst v = a')
    (h : wpAny P md ops Q fuel listed' a' w) : wpAny P md ops Q (fuel + 1) listed a w :=
  wpAny_take hi hs hf hr hQ hy (by rw [hl, ha]; exact h)

theorem wpOp_run {P : Program} {ops : Array Oper} {Q : Exit → Act → World → Prop} {i : Nat} {o : Oper} {a : Act} {w w' : World} {K : Act → World → Prop} {v : Value} (hi : ops[i]? = some o) (hg : o.guard = none)
    (hrun : (execOp a.eval o).run P w = .ok (.value v) w') (h : K (a.put o.dst v) w') : wpOp P ops Q i K a w := by
  unfold wpOp
  simp only [hi, Region.wanted, hg, if_true]
  refine .inl ?_
  unfold Oper.wp
  rw [hrun]
  exact h

theorem row_of {w : World} {b : Nat} {t : TypeId} {n : Nat} {f : Nat → Value} (h : w.rowIs b t n f) : ∃ cur : Array Value, w.heap[b]? = some (.cells cur t (0, 0)) ∧ cur.size = n := by
  obtain ⟨c, h1, h2, _⟩ := h; exact ⟨c, h1, h2⟩
/-- While the rows are filled: cb the struct, ib in, eb reports, lb lost; the first k are done. -/
structure CI (w wr : World) (N cb ib eb lb k : Nat) : Prop where
  below : Below w.heap.size w wr
  c0 : wr.cell? ⟨cb, 0, none⟩ = some (.int .i64 0)
  c1 : wr.cell? ⟨cb, 1, none⟩ = some (.slice (some ⟨ib, 0, none⟩) N N)
  c4 : wr.cell? ⟨cb, 4, none⟩ = some (.slice (some ⟨eb, 0, none⟩) N N)
  c6 : wr.cell? ⟨cb, 6, none⟩ = some (.slice (some ⟨lb, 0, none⟩) N N)
  inn : wr.rowIs ib 4 N (fun n => .bool (decide (n < k)))
  rep : ∃ cur : Array Value, wr.heap[eb]? = some (.cells cur 24 (0, 0)) ∧ cur.size = N
  lost : wr.rowIs lb 4 N (fun _ => .bool false)
  clt : cb < wr.heap.size
  ge : w.heap.size ≤ cb ∧ w.heap.size ≤ ib ∧ w.heap.size ≤ eb ∧ w.heap.size ≤ lb
  nc : cb ≠ ib ∧ cb ≠ eb ∧ cb ≠ lb
  ne : ib ≠ eb ∧ ib ≠ lb ∧ eb ≠ lb

theorem CI.step {w wr : World} {N cb ib eb lb k : Nat} (h : CI w wr N cb ib eb lb k) (hk : k < N) (v : Value) (o : Obj) :
    CI w (((wr.setCell ⟨ib, k, none⟩ (.bool true)).setCell ⟨eb, k, none⟩ v).alloc o).drew N cb ib eb lb (k + 1) := by
  obtain ⟨n1, n2, n3⟩ := h.nc
  obtain ⟨m1, m2, m3⟩ := h.ne
  obtain ⟨g1, g2, g3, g4⟩ := h.ge
  have hsz : ((wr.setCell ⟨ib, k, none⟩ (.bool true)).setCell ⟨eb, k, none⟩ v).heap.size = wr.heap.size := by simp
  have blk : ∀ b, b < wr.heap.size → b ≠ ib → b ≠ eb → (((wr.setCell ⟨ib, k, none⟩ (.bool true)).setCell ⟨eb, k, none⟩ v).alloc o).drew.heap[b]? = wr.heap[b]? := fun b hb h1 h2 =>
    (Below.heap_alloc _ _ _ (by rw [hsz]; exact hb)).trans ((heap_setCell_other _ _ _ _ h2).trans (heap_setCell_other _ _ _ _ h1))
  have cell : ∀ j, (((wr.setCell ⟨ib, k, none⟩ (.bool true)).setCell ⟨eb, k, none⟩ v).alloc o).drew.cell? ⟨cb, j, none⟩ = wr.cell? ⟨cb, j, none⟩ := fun j => World.cell?_of_block (a := ⟨cb, j, none⟩) (blk cb h.clt n1 n2)
  have hb : Below w.heap.size w ((wr.setCell ⟨ib, k, none⟩ (.bool true)).setCell ⟨eb, k, none⟩ v) := (h.below.setCell g2 _).setCell g3 _
  refine ⟨(hb.alloc hb.size _).drew, (cell _).trans h.c0, (cell _).trans h.c1, (cell _).trans h.c4, (cell _).trans h.c6, ?_, ?_, h.lost.of_block (blk lb h.lost.lt (Ne.symm m2) (Ne.symm m3)), ?_, h.ge, h.nc, h.ne⟩
  · refine ((((h.inn.set k (.bool true)).setOther (a := ⟨eb, k, none⟩) m1 v).alloc o).drew).congr (fun i _ => ?_)
    by_cases e : i = k
    · subst e; simp
    · simp only [if_neg e]; rw [show decide (i < k) = decide (i < k + 1) from decide_eq_decide.2 (by omega)]
  · obtain ⟨cur, h1, h2⟩ := h.rep
    exact ⟨_, (Below.heap_alloc _ _ _ (by rw [hsz]; exact lt_of_block h1)).trans (heap_setCell_same _ _ _ _ _ _ ((heap_setCell_other _ _ _ _ (Ne.symm m1)).trans h1)), by simpa using h2⟩
  · have := h.clt; simp; omega

/-- The frame while the makes run. -/
def FX (N : Nat) (X : Nat → Value) : Act := ⟨#[.int .i64 0, .int .i64 N, .int .i64 2, undef, undef, undef, .pointer none, .int .i64 4, undef, undef, .int .i64 2, .bool true, .int .i64 2, .int .i64 4, .int .i64 0, .int .i64 N, X 2, .int .i64 N, X 4, .int .i64 N, X 6, .int .i64 4, .int .i64 N, X 9, .int .i64 N, X 11, .int .i64 N, X 13, .int .i64 N, X 15, undef, undef, undef, undef, undef, undef, undef, undef, undef, undef, undef, undef, undef, undef, undef, undef, undef, undef, undef, undef, undef, undef], []⟩

set_option maxRecDepth 20000 in
set_option maxHeartbeats 2000000 in
theorem newConf_any (N : Nat) (w : World) (hN : N ≤ 8) :
    Calls Yba.prog 11 #[.int .i64 0, .int .i64 N, .int .i64 2] w fun e w' => ∃ cb ib lb, e = .returned (.pointer (some ⟨cb, 0, none⟩)) ∧ Conf w w' N cb ib lb := by
  have k4 : ∀ w, _ := run_make_gen (P := Yba.prog) 24 4 (.bool false) 1 Yba.underlying24 Yba.info4 rfl N N (Nat.le_refl _) (by omega) (by omega)
  have k3 : ∀ w, _ := run_make_gen (P := Yba.prog) 43 3 (.int .i64 0) 8 Yba.underlying43 Yba.info3 rfl N N (Nat.le_refl _) (by omega) (by omega)
  have k24 : ∀ w, _ := run_make_gen (P := Yba.prog) 44 24 (.slice none 0 0) 24 Yba.underlying44 Yba.info24 rfl N N (Nat.le_refl _) (by omega) (by omega)
  go_enter Yba.func11, Yba.ntmps11
  go_upto_region 4 with fail
  go_cut [8] (fun x wx => ∃ (X : Nat → Value) (bl : Nat → Nat) (wy : World), x = .pointer (some ⟨wy.heap.size, 0, none⟩) ∧ MkI w wy N [] X bl ∧ wy.alloc (.cells #[.int .i64 0, .slice (some ⟨bl 2, 0, none⟩) N N, .slice (some ⟨bl 4, 0, none⟩) N N, .int .i64 2, .slice (some ⟨bl 6, 0, none⟩) N N, .int .i64 4, .slice (some ⟨bl 9, 0, none⟩) N N, .slice (some ⟨bl 11, 0, none⟩) N N, .slice (some ⟨bl 13, 0, none⟩) N N, .slice (some ⟨bl 15, 0, none⟩) N N] 46) = wx)
  case first =>
    refine wp_region_any (by kernel_rfl) ?_
    refine take1 (i := 0) (v := .int .i64 0) (listedOf 19 [1, 2, 3, 4, 5, 6, 7, 8, 9, 10, 11, 12, 13, 14, 15, 16, 17, 18]) ⟨#[.int .i64 0, .int .i64 N, .int .i64 2, undef, undef, undef, .pointer none, .int .i64 4, undef, undef, .int .i64 2, .bool true, .int .i64 2, .int .i64 4, .int .i64 0, undef, undef, undef, undef, undef, undef, undef, undef, undef, undef, undef, undef, undef, undef, undef, undef, undef, undef, undef, undef, undef, undef, undef, undef, undef, undef, undef, undef, undef, undef, undef, undef, undef, undef, undef, undef, undef], []⟩ rfl (by kernel_rfl) (by kernel_rfl) (by kernel_rfl) (fun c a w h => h) (.inl ⟨rfl, fun w => rfl⟩) (by kernel_rfl) rfl ?_
    refine take1 (i := 1) (v := .int .i64 N) (listedOf 19 [2, 3, 4, 5, 6, 7, 8, 9, 10, 11, 12, 13, 14, 15, 16, 17, 18]) ⟨#[.int .i64 0, .int .i64 N, .int .i64 2, undef, undef, undef, .pointer none, .int .i64 4, undef, undef, .int .i64 2, .bool true, .int .i64 2, .int .i64 4, .int .i64 0, .int .i64 N, undef, undef, undef, undef, undef, undef, undef, undef, undef, undef, undef, undef, undef, undef, undef, undef, undef, undef, undef, undef, undef, undef, undef, undef, undef, undef, undef, undef, undef, undef, undef, undef, undef, undef, undef, undef], []⟩ rfl (by kernel_rfl) (by kernel_rfl) (by kernel_rfl) (fun c a w h => h) (.inl ⟨rfl, fun w => rfl⟩) (by kernel_rfl) rfl ?_
    refine take1 (i := 3) (v := .int .i64 N) (listedOf 19 [2, 4, 5, 6, 7, 8, 9, 10, 11, 12, 13, 14, 15, 16, 17, 18]) ⟨#[.int .i64 0, .int .i64 N, .int .i64 2, undef, undef, undef, .pointer none, .int .i64 4, undef, undef, .int .i64 2, .bool true, .int .i64 2, .int .i64 4, .int .i64 0, .int .i64 N, undef, .int .i64 N, undef, undef, undef, undef, undef, undef, undef, undef, undef, undef, undef, undef, undef, undef, undef, undef, undef, undef, undef, undef, undef, undef, undef, undef, undef, undef, undef, undef, undef, undef, undef, undef, undef, undef], []⟩ rfl (by kernel_rfl) (by kernel_rfl) (by kernel_rfl) (fun c a w h => h) (.inl ⟨rfl, fun w => rfl⟩) (by kernel_rfl) rfl ?_
    refine take1 (i := 5) (v := .int .i64 N) (listedOf 19 [2, 4, 6, 7, 8, 9, 10, 11, 12, 13, 14, 15, 16, 17, 18]) ⟨#[.int .i64 0, .int .i64 N, .int .i64 2, undef, undef, undef, .pointer none, .int .i64 4, undef, undef, .int .i64 2, .bool true, .int .i64 2, .int .i64 4, .int .i64 0, .int .i64 N, undef, .int .i64 N, undef, .int .i64 N, undef, undef, undef, undef, undef, undef, undef, undef, undef, undef, undef, undef, undef, undef, undef, undef, undef, undef, undef, undef, undef, undef, undef, undef, undef, undef, undef, undef, undef, undef, undef, undef], []⟩ rfl (by kernel_rfl) (by kernel_rfl) (by kernel_rfl) (fun c a w h => h) (.inl ⟨rfl, fun w => rfl⟩) (by kernel_rfl) rfl ?_
    refine take1 (i := 7) (v := .int .i64 4) (listedOf 19 [2, 4, 6, 8, 9, 10, 11, 12, 13, 14, 15, 16, 17, 18]) ⟨#[.int .i64 0, .int .i64 N, .int .i64 2, undef, undef, undef, .pointer none, .int .i64 4, undef, undef, .int .i64 2, .bool true, .int .i64 2, .int .i64 4, .int .i64 0, .int .i64 N, undef, .int .i64 N, undef, .int .i64 N, undef, .int .i64 4, undef, undef, undef, undef, undef, undef, undef, undef, undef, undef, undef, undef, undef, undef, undef, undef, undef, undef, undef, undef, undef, undef, undef, undef, undef, undef, undef, undef, undef, undef], []⟩ rfl (by kernel_rfl) (by kernel_rfl) (by kernel_rfl) (fun c a w h => h) (.inl ⟨rfl, fun w => rfl⟩) (by kernel_rfl) rfl ?_
    refine take1 (i := 8) (v := .int .i64 N) (listedOf 19 [2, 4, 6, 9, 10, 11, 12, 13, 14, 15, 16, 17, 18]) ⟨#[.int .i64 0, .int .i64 N, .int .i64 2, undef, undef, undef, .pointer none, .int .i64 4, undef, undef, .int .i64 2, .bool true, .int .i64 2, .int .i64 4, .int .i64 0, .int .i64 N, undef, .int .i64 N, undef, .int .i64 N, undef, .int .i64 4, .int .i64 N, undef, undef, undef, undef, undef, undef, undef, undef, undef, undef, undef, undef, undef, undef, undef, undef, undef, undef, undef, undef, undef, undef, undef, undef, undef, undef, undef, undef, undef], []⟩ rfl (by kernel_rfl) (by kernel_rfl) (by kernel_rfl) (fun c a w h => h) (.inl ⟨rfl, fun w => rfl⟩) (by kernel_rfl) rfl ?_
    refine take1 (i := 10) (v := .int .i64 N) (listedOf 19 [2, 4, 6, 9, 11, 12, 13, 14, 15, 16, 17, 18]) ⟨#[.int .i64 0, .int .i64 N, .int .i64 2, undef, undef, undef, .pointer none, .int .i64 4, undef, undef, .int .i64 2, .bool true, .int .i64 2, .int .i64 4, .int .i64 0, .int .i64 N, undef, .int .i64 N, undef, .int .i64 N, undef, .int .i64 4, .int .i64 N, undef, .int .i64 N, undef, undef, undef, undef, undef, undef, undef, undef, undef, undef, undef, undef, undef, undef, undef, undef, undef, undef, undef, undef, undef, undef, undef, undef, undef, undef, undef], []⟩ rfl (by kernel_rfl) (by kernel_rfl) (by kernel_rfl) (fun c a w h => h) (.inl ⟨rfl, fun w => rfl⟩) (by kernel_rfl) rfl ?_
    refine take1 (i := 12) (v := .int .i64 N) (listedOf 19 [2, 4, 6, 9, 11, 13, 14, 15, 16, 17, 18]) ⟨#[.int .i64 0, .int .i64 N, .int .i64 2, undef, undef, undef, .pointer none, .int .i64 4, undef, undef, .int .i64 2, .bool true, .int .i64 2, .int .i64 4, .int .i64 0, .int .i64 N, undef, .int .i64 N, undef, .int .i64 N, undef, .int .i64 4, .int .i64 N, undef, .int .i64 N, undef, .int .i64 N, undef, undef, undef, undef, undef, undef, undef, undef, undef, undef, undef, undef, undef, undef, undef, undef, undef, undef, undef, undef, undef, undef, undef, undef, undef], []⟩ rfl (by kernel_rfl) (by kernel_rfl) (by kernel_rfl) (fun c a w h => h) (.inl ⟨rfl, fun w => rfl⟩) (by kernel_rfl) rfl ?_
    refine take1 (i := 14) (v := .int .i64 N) (listedOf 19 [2, 4, 6, 9, 11, 13, 15, 16, 17, 18]) ⟨#[.int .i64 0, .int .i64 N, .int .i64 2, undef, undef, undef, .pointer none, .int .i64 4, undef, undef, .int .i64 2, .bool true, .int .i64 2, .int .i64 4, .int .i64 0, .int .i64 N, undef, .int .i64 N, undef, .int .i64 N, undef, .int .i64 4, .int .i64 N, undef, .int .i64 N, undef, .int .i64 N, undef, .int .i64 N, undef, undef, undef, undef, undef, undef, undef, undef, undef, undef, undef, undef, undef, undef, undef, undef, undef, undef, undef, undef, undef, undef, undef], []⟩ rfl (by kernel_rfl) (by kernel_rfl) (by kernel_rfl) (fun c a w h => h) (.inl ⟨rfl, fun w => rfl⟩) (by kernel_rfl) rfl ?_
    refine wpAny_pool pool7 [16, 17, 18] 3 (fun p a v => ∃ X bl, a = FX N X ∧ MkI w v N p X bl) (by kernel_rfl) (by kernel_rfl) ?_ ?_ 7 pool7 rfl (by decide +kernel) _ _ ⟨fun _ => undef, fun _ => 0, rfl, ⟨(Below.refl _ _).drew, fun i h1 h2 => absurd h1 h2, fun i j h1 _ h2 => absurd h1 h2⟩⟩
    · rintro p i a v hp hi ⟨X, bl, rfl, hI⟩
      have hnd : p.Nodup := of_decide_eq_true (List.all_eq_true.1 subs_nodup p hp)
      have hm : i ∈ pool7 := by
        have : ((subs pool7).all fun p => p.all fun i => pool7.contains i) = true := by decide +kernel
        have := List.all_eq_true.1 (List.all_eq_true.1 this p hp) i hi
        simpa using this
      have hmk := hI.make hnd hi
      simp only [pool7, List.mem_cons, List.not_mem_nil, or_false] at hm
      rcases hm with rfl | rfl | rfl | rfl | rfl | rfl | rfl
      · exact wpOp_make (k := 15) rfl rfl rfl rfl (k4 v) ⟨updV X 2 (.slice (some ⟨v.heap.size, 0, none⟩) N N), updB bl 2 v.heap.size, rfl, hmk⟩
      · exact wpOp_make (k := 17) rfl rfl rfl rfl (k3 v) ⟨updV X 4 (.slice (some ⟨v.heap.size, 0, none⟩) N N), updB bl 4 v.heap.size, rfl, hmk⟩
      · exact wpOp_make (k := 19) rfl rfl rfl rfl (k24 v) ⟨updV X 6 (.slice (some ⟨v.heap.size, 0, none⟩) N N), updB bl 6 v.heap.size, rfl, hmk⟩
      · exact wpOp_make (k := 22) rfl rfl rfl rfl (k4 v) ⟨updV X 9 (.slice (some ⟨v.heap.size, 0, none⟩) N N), updB bl 9 v.heap.size, rfl, hmk⟩
      · exact wpOp_make (k := 24) rfl rfl rfl rfl (k4 v) ⟨updV X 11 (.slice (some ⟨v.heap.size, 0, none⟩) N N), updB bl 11 v.heap.size, rfl, hmk⟩
      · exact wpOp_make (k := 26) rfl rfl rfl rfl (k4 v) ⟨updV X 13 (.slice (some ⟨v.heap.size, 0, none⟩) N N), updB bl 13 v.heap.size, rfl, hmk⟩
      · exact wpOp_make (k := 28) rfl rfl rfl rfl (k3 v) ⟨updV X 15 (.slice (some ⟨v.heap.size, 0, none⟩) N N), updB bl 15 v.heap.size, rfl, hmk⟩
    · rintro a v ⟨X, bl, rfl, hI⟩
      have e2 := (hI.val 2 (by decide) (by decide)).1
      have e4 := (hI.val 4 (by decide) (by decide)).1
      have e6 := (hI.val 6 (by decide) (by decide)).1
      have e9 := (hI.val 9 (by decide) (by decide)).1
      have e11 := (hI.val 11 (by decide) (by decide)).1
      have e13 := (hI.val 13 (by decide) (by decide)).1
      have e15 := (hI.val 15 (by decide) (by decide)).1
      have eF : FX N X = ⟨#[.int .i64 0, .int .i64 N, .int .i64 2, undef, undef, undef, .pointer none, .int .i64 4, undef, undef, .int .i64 2, .bool true, .int .i64 2, .int .i64 4, .int .i64 0, .int .i64 N, .slice (some ⟨bl 2, 0, none⟩) N N, .int .i64 N, .slice (some ⟨bl 4, 0, none⟩) N N, .int .i64 N, .slice (some ⟨bl 6, 0, none⟩) N N, .int .i64 4, .int .i64 N, .slice (some ⟨bl 9, 0, none⟩) N N, .int .i64 N, .slice (some ⟨bl 11, 0, none⟩) N N, .int .i64 N, .slice (some ⟨bl 13, 0, none⟩) N N, .int .i64 N, .slice (some ⟨bl 15, 0, none⟩) N N, undef, undef, undef, undef, undef, undef, undef, undef, undef, undef, undef, undef, undef, undef, undef, undef, undef, undef, undef, undef, undef, undef], []⟩ := by unfold FX; rw [e2, e4, e6, e9, e11, e13, e15]
      rw [eF]
      refine take1 (i := 16) (v := .agg #[.int .i64 0, .slice (some ⟨bl 2, 0, none⟩) N N, .slice (some ⟨bl 4, 0, none⟩) N N, .int .i64 2, .slice (some ⟨bl 6, 0, none⟩) N N, .int .i64 4, .slice (some ⟨bl 9, 0, none⟩) N N, .slice (some ⟨bl 11, 0, none⟩) N N, .slice (some ⟨bl 13, 0, none⟩) N N, .slice (some ⟨bl 15, 0, none⟩) N N]) (listedOf 19 [17, 18]) ⟨#[.int .i64 0, .int .i64 N, .int .i64 2, undef, undef, undef, .pointer none, .int .i64 4, undef, undef, .int .i64 2, .bool true, .int .i64 2, .int .i64 4, .int .i64 0, .int .i64 N, .slice (some ⟨bl 2, 0, none⟩) N N, .int .i64 N, .slice (some ⟨bl 4, 0, none⟩) N N, .int .i64 N, .slice (some ⟨bl 6, 0, none⟩) N N, .int .i64 4, .int .i64 N, .slice (some ⟨bl 9, 0, none⟩) N N, .int .i64 N, .slice (some ⟨bl 11, 0, none⟩) N N, .int .i64 N, .slice (some ⟨bl 13, 0, none⟩) N N, .int .i64 N, .slice (some ⟨bl 15, 0, none⟩) N N, .agg #[.int .i64 0, .slice (some ⟨bl 2, 0, none⟩) N N, .slice (some ⟨bl 4, 0, none⟩) N N, .int .i64 2, .slice (some ⟨bl 6, 0, none⟩) N N, .int .i64 4, .slice (some ⟨bl 9, 0, none⟩) N N, .slice (some ⟨bl 11, 0, none⟩) N N, .slice (some ⟨bl 13, 0, none⟩) N N, .slice (some ⟨bl 15, 0, none⟩) N N], undef, undef, undef, undef, undef, undef, undef, undef, undef, undef, undef, undef, undef, undef, undef, undef, undef, undef, undef, undef, undef], []⟩ rfl (by kernel_rfl) (by kernel_rfl) (by kernel_rfl) (fun c a w h => h) (.inl ⟨rfl, fun w => by go_simp⟩) (by kernel_rfl) rfl ?_
      refine wpAny_all (rs := [17]) (by kernel_rfl) (by decide) ?_
      intro i hi
      simp only [List.mem_singleton] at hi
      subst hi
      have hbox : (execOp (⟨#[.int .i64 0, .int .i64 N, .int .i64 2, undef, undef, undef, .pointer none, .int .i64 4, undef, undef, .int .i64 2, .bool true, .int .i64 2, .int .i64 4, .int .i64 0, .int .i64 N, .slice (some ⟨bl 2, 0, none⟩) N N, .int .i64 N, .slice (some ⟨bl 4, 0, none⟩) N N, .int .i64 N, .slice (some ⟨bl 6, 0, none⟩) N N, .int .i64 4, .int .i64 N, .slice (some ⟨bl 9, 0, none⟩) N N, .int .i64 N, .slice (some ⟨bl 11, 0, none⟩) N N, .int .i64 N, .slice (some ⟨bl 13, 0, none⟩) N N, .int .i64 N, .slice (some ⟨bl 15, 0, none⟩) N N, .agg #[.int .i64 0, .slice (some ⟨bl 2, 0, none⟩) N N, .slice (some ⟨bl 4, 0, none⟩) N N, .int .i64 2, .slice (some ⟨bl 6, 0, none⟩) N N, .int .i64 4, .slice (some ⟨bl 9, 0, none⟩) N N, .slice (some ⟨bl 11, 0, none⟩) N N, .slice (some ⟨bl 13, 0, none⟩) N N, .slice (some ⟨bl 15, 0, none⟩) N N], undef, undef, undef, undef, undef, undef, undef, undef, undef, undef, undef, undef, undef, undef, undef, undef, undef, undef, undef, undef, undef], []⟩ : Act).eval (⟨some 31, .box 46 (.tmp 30), 39, "configuration.go:82", #[⟨16, .data⟩], none⟩ : Oper)).run Yba.prog v = .ok (.value (.pointer (some ⟨v.heap.size, 0, none⟩))) (v.alloc (.cells #[.int .i64 0, .slice (some ⟨bl 2, 0, none⟩) N N, .slice (some ⟨bl 4, 0, none⟩) N N, .int .i64 2, .slice (some ⟨bl 6, 0, none⟩) N N, .int .i64 4, .slice (some ⟨bl 9, 0, none⟩) N N, .slice (some ⟨bl 11, 0, none⟩) N N, .slice (some ⟨bl 13, 0, none⟩) N N, .slice (some ⟨bl 15, 0, none⟩) N N] 46)) := by go_simp
      refine wpOp_run rfl rfl hbox ?_
      refine take1 (i := 18) (v := .pointer (some ⟨v.heap.size, 0, none⟩)) (listedOf 19 []) ⟨#[.int .i64 0, .int .i64 N, .int .i64 2, undef, undef, undef, .pointer none, .int .i64 4, .pointer (some ⟨v.heap.size, 0, none⟩), undef, .int .i64 2, .bool true, .int .i64 2, .int .i64 4, .int .i64 0, .int .i64 N, .slice (some ⟨bl 2, 0, none⟩) N N, .int .i64 N, .slice (some ⟨bl 4, 0, none⟩) N N, .int .i64 N, .slice (some ⟨bl 6, 0, none⟩) N N, .int .i64 4, .int .i64 N, .slice (some ⟨bl 9, 0, none⟩) N N, .int .i64 N, .slice (some ⟨bl 11, 0, none⟩) N N, .int .i64 N, .slice (some ⟨bl 13, 0, none⟩) N N, .int .i64 N, .slice (some ⟨bl 15, 0, none⟩) N N, .agg #[.int .i64 0, .slice (some ⟨bl 2, 0, none⟩) N N, .slice (some ⟨bl 4, 0, none⟩) N N, .int .i64 2, .slice (some ⟨bl 6, 0, none⟩) N N, .int .i64 4, .slice (some ⟨bl 9, 0, none⟩) N N, .slice (some ⟨bl 11, 0, none⟩) N N, .slice (some ⟨bl 13, 0, none⟩) N N, .slice (some ⟨bl 15, 0, none⟩) N N], .pointer (some ⟨v.heap.size, 0, none⟩), undef, undef, undef, undef, undef, undef, undef, undef, undef, undef, undef, undef, undef, undef, undef, undef, undef, undef, undef, undef], []⟩ rfl (by kernel_rfl) (by kernel_rfl) (by kernel_rfl) (fun c a w h => h) (.inl ⟨rfl, fun w => rfl⟩) (by kernel_rfl) rfl ?_
      refine wpAny_done (by kernel_rfl) ?_ _
      dsimp only
      go_wp2
      go_meet
      case rel => exact ⟨X, bl, v, rfl, hI, rfl⟩
  case rest =>
    obtain ⟨X, bl, wy, rfl, hI, rfl⟩ := hcut
    clear k3 k24
    obtain ⟨-, g2, r2⟩ := hI.val 2 (by decide) (by decide)
    obtain ⟨-, g6, r6⟩ := hI.val 6 (by decide) (by decide)
    obtain ⟨-, g9, r9⟩ := hI.val 9 (by decide) (by decide)
    have n1 : bl 2 ≠ bl 9 := fun e => absurd (hI.inj 2 9 (by decide) (by decide) (by decide) (by decide) e) (by decide)
    have n2 : bl 2 ≠ bl 6 := fun e => absurd (hI.inj 2 6 (by decide) (by decide) (by decide) (by decide) e) (by decide)
    have n3 : bl 6 ≠ bl 9 := fun e => absurd (hI.inj 6 9 (by decide) (by decide) (by decide) (by decide) e) (by decide)
    have HI := hide hI
    have q1 : (wy.alloc (.cells #[.int .i64 0, .slice (some ⟨bl 2, 0, none⟩) N N, .slice (some ⟨bl 4, 0, none⟩) N N, .int .i64 2, .slice (some ⟨bl 6, 0, none⟩) N N, .int .i64 4, .slice (some ⟨bl 9, 0, none⟩) N N, .slice (some ⟨bl 11, 0, none⟩) N N, .slice (some ⟨bl 13, 0, none⟩) N N, .slice (some ⟨bl 15, 0, none⟩) N N] 46)).cell? ⟨wy.heap.size, 1, none⟩ = some (.slice (some ⟨bl 2, 0, none⟩) N N) := (cell_of_row _ _ _ _ _ _ (heap_alloc_new _ _)).trans rfl
    have hst : CI w (wy.alloc (.cells #[.int .i64 0, .slice (some ⟨bl 2, 0, none⟩) N N, .slice (some ⟨bl 4, 0, none⟩) N N, .int .i64 2, .slice (some ⟨bl 6, 0, none⟩) N N, .int .i64 4, .slice (some ⟨bl 9, 0, none⟩) N N, .slice (some ⟨bl 11, 0, none⟩) N N, .slice (some ⟨bl 13, 0, none⟩) N N, .slice (some ⟨bl 15, 0, none⟩) N N] 46)) N wy.heap.size (bl 2) (bl 6) (bl 9) 0 :=
      ⟨hI.below.alloc hI.below.size _, (cell_of_row _ _ _ _ _ _ (heap_alloc_new _ _)).trans rfl, (cell_of_row _ _ _ _ _ _ (heap_alloc_new _ _)).trans rfl, (cell_of_row _ _ _ _ _ _ (heap_alloc_new _ _)).trans rfl, (cell_of_row _ _ _ _ _ _ (heap_alloc_new _ _)).trans rfl, (r2.alloc _).congr (fun i _ => by simp [mkZ]), row_of (r6.alloc _), (r9.alloc _), by simp, ⟨hI.below.size, g2, g6, g9⟩, ⟨Nat.ne_of_gt r2.lt, Nat.ne_of_gt r6.lt, Nat.ne_of_gt r9.lt⟩, ⟨n2, n1, n3⟩⟩
    have HST := hide hst
    clear hst r2 r6 r9 hI g2 g6 g9
    generalize wy.alloc (.cells #[.int .i64 0, .slice (some ⟨bl 2, 0, none⟩) N N, .slice (some ⟨bl 4, 0, none⟩) N N, .int .i64 2, .slice (some ⟨bl 6, 0, none⟩) N N, .int .i64 4, .slice (some ⟨bl 9, 0, none⟩) N N, .slice (some ⟨bl 11, 0, none⟩) N N, .slice (some ⟨bl 13, 0, none⟩) N N, .slice (some ⟨bl 15, 0, none⟩) N N] 46) = w5 at HST q1 ⊢
    generalize wy.heap.size = cb at HST q1 ⊢
    clear HI
    generalize bl 2 = ib at HST q1 n1 n2 ⊢
    generalize bl 6 = eb at HST n2 n3 ⊢
    generalize bl 9 = lb at HST n1 n3 ⊢
    go_wp2
    go_loopg [33] N (fun gk y wr => ∃ k : Nat, y = .int .i64 k ∧ gk + k = N ∧ CI w wr N cb ib eb lb k)
    case atStart => exact ⟨0, rfl, by omega, HST.out⟩
    case round =>
      clear HST q1
      obtain ⟨k, rfl, hgk, hC⟩ := hrel
      by_cases hk : k < N
      · have d1 := hC.c1
        have d4 := hC.c4
        have di := hC.inn.cell hk
        have fi := hC.inn.frozen k
        obtain ⟨cur, hcur, hcs⟩ := hC.rep
        obtain ⟨x, hx⟩ : ∃ x, cur[k]? = some x := ⟨cur[k]'(by omega), Array.getElem?_eq_getElem (by omega)⟩
        have de : wr.cell? ⟨eb, k, none⟩ = some x := (cell_of_row _ _ _ _ _ _ hcur).trans hx
        have fe : wr.frozen? ⟨eb, k, none⟩ = false := frozen_of_row _ _ _ _ _ hcur
        have l1 := hC.clt
        have l2 := hC.inn.lt
        have l3 : eb < wr.heap.size := lt_of_block hcur
        obtain ⟨m1, m2, m3⟩ := hC.nc
        have hqk : (k : Int) < (N : Int) := by omega
        have HC := hide hC
        clear hC hcur hcs hx
        go_upto_region 9 with fail
        go_big_region
        go_wp2
        go_roundg (N - (k + 1))
        case measure => omega
        case rel => exact ⟨k + 1, by go_num, by omega, HC.out.step hk _ _⟩
      · obtain rfl : k = N := by omega
        have HC := hide hC
        clear hC
        go_wp2
        go_ret
        exact ⟨cb, ib, lb, rfl, HC.out.below, HC.out.c0, HC.out.c1, HC.out.c6, HC.out.inn.congr (fun i hi => by simp [hi]), HC.out.lost, ⟨HC.out.ge.1, HC.out.ge.2.1, HC.out.ge.2.2.2⟩, ⟨HC.out.nc.1, HC.out.nc.2.2, HC.out.ne.2.1⟩⟩
end Go.Proofs.Ybulkbbgw.Vo
