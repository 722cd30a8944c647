/-
  LawS2624BTreeMin: the row.
-/
import Derived.Test.YbulkbbhyTreeWalk
import Derived.ProofKit
import Derived.OpenShut
import Derived.ShutString
import Derived.ChangeOld
import Derived.Below
import Derived.Deep.Slices
namespace Go.Proofs.Ybulkbbhy.Tree
open Go.ChangeShapes Go.WideShapes Go.ChangeAt Go.RowKit

theorem treeOwn : ownKnob Yba.prog.godebug = none := by kernel_rfl
theorem treeLaidOut : laidOutB Yba.prog = true := by kernel_rfl

theorem addr_add (b off j : Nat) : (⟨b, off, none⟩ : Addr).add j = ⟨b, off + j, none⟩ := by
  unfold Addr.add; split <;> simp_all

theorem choose_all {α : Type} {p : Nat → α → Prop} (h : ∀ i, ∃ x, p i x) : ∃ f : Nat → α, ∀ i, p i (f i) :=
  ⟨fun i => Classical.choose (h i), fun i => Classical.choose_spec (h i)⟩

/-- What the walk is told of the slice of nodes that came in. -/
def IsNodes (w : World) (ao : Option Addr) (len : Nat) (o m e p : Nat → Int) : Prop :=
  len ≤ maxLen ∧ (0 < len → ∃ ib ioff, ao = some ⟨ib, ioff, none⟩ ∧ ib < w.heap.size ∧ ∀ i, i < len →
    (w.cell? ⟨ib, ioff + i * 4, none⟩ = some (.int .u8 (o i)) ∧ w.cell? ⟨ib, ioff + i * 4 + 1, none⟩ = some (.int .u16 (m i)) ∧
     w.cell? ⟨ib, ioff + i * 4 + 2, none⟩ = some (.int .u8 (e i)) ∧ w.cell? ⟨ib, ioff + i * 4 + 3, none⟩ = some (.int .u16 (p i)))) ∧
  (∀ i, 0 ≤ o i ∧ o i ≤ 255) ∧ (∀ i, 0 ≤ m i ∧ m i ≤ 65535) ∧ (∀ i, 0 ≤ e i ∧ e i ≤ 255) ∧ (∀ i, 0 ≤ p i ∧ p i ≤ 65535)

/-- One element of the slice. -/
theorem open_elem {H : Type} {enc : TypeId × Value → H} {w : World} {sp : Nat → Bool} {held : Bool} {fuel : Nat} {a : Addr} {cs : List Value} {x : DataW H × List MemPlace}
    (h1 : w.cells? 0 a 4 = some cs) (h2 : DataW.trod enc Yba.prog w 0 sp held fuel 70 cs = some x) :
    ∃ o m e p : Int, (0 ≤ o ∧ o ≤ 255) ∧ (0 ≤ m ∧ m ≤ 65535) ∧ (0 ≤ e ∧ e ≤ 255) ∧ (0 ≤ p ∧ p ≤ 65535) ∧
      w.cell? (a.add 0) = some (.int .u8 o) ∧ w.cell? (a.add 1) = some (.int .u16 m) ∧ w.cell? (a.add 2) = some (.int .u8 e) ∧ w.cell? (a.add 3) = some (.int .u16 p) := by
  obtain ⟨_, hlen, hcell⟩ := World.cells?_some h1
  obtain ⟨xs, k, _, _, _, hxl, hf⟩ := DataW.trod_struct Yba.underlying70 h2
  have c5 : Yba.prog.cellsOf 5 = 1 := by kernel_rfl
  have c60 : Yba.prog.cellsOf 60 = 1 := by kernel_rfl
  match xs, hxl, cs, hlen with
  | [y0, y1, y2, y3], _, [v0, v1, v2, v3], _ =>
    have f0 := hf 0 _ rfl
    have f1 := hf 1 _ rfl
    have f2 := hf 2 _ rfl
    have f3 := hf 3 _ rfl
    simp [c5, c60] at f0 f1 f2 f3
    obtain ⟨n0, e0, _, w0⟩ := DataW.trod_int Yba.underlying5 f0
    obtain ⟨n1, e1, _, w1⟩ := DataW.trod_int Yba.underlying60 f1
    obtain ⟨n2, e2, _, w2⟩ := DataW.trod_int Yba.underlying5 f2
    obtain ⟨n3, e3, _, w3⟩ := DataW.trod_int Yba.underlying60 f3
    simp at e0 e1 e2 e3
    subst e0 e1 e2 e3
    exact ⟨n0, n1, n2, n3, bounds_u8 w0, bounds_u16 w1, bounds_u8 w2, bounds_u16 w3, hcell 0 (by omega), hcell 1 (by omega), hcell 2 (by omega), hcell 3 (by omega)⟩

theorem law_any (w : World) (ao : Option Addr) (len cap : Nat) (o m e p : Nat → Int) (h : IsNodes w ao len o m e p) :
    Calls Yba.prog 4 #[.slice ao len cap] w fun e w' => e = .returned (.bool true) ∧ Below w.heap.size w w' := by
  obtain ⟨hmax, hc, ho, hm, he, hp⟩ := h
  unfold maxLen at hmax
  by_cases h0 : len = 0
  · subst h0; exact law_empty w ao cap
  · by_cases h1 : 1024 < len
    · exact law_long w ao len cap h1 (by omega)
    · obtain ⟨ib, ioff, rfl, hib, hcells⟩ := hc (by omega)
      exact law_walk w ib ioff len cap o m e p (by omega) (by omega) (fun i hi => (hcells i hi).1) (fun i hi => (hcells i hi).2.1) (fun i hi => (hcells i hi).2.2.1) (fun i hi => (hcells i hi).2.2.2) hib ho hm he hp

theorem open_nodes {H : Type} {enc : TypeId × Value → H} {W : World} {fuel : Nat} {ao : Option Addr} {len cap : Nat} {x : DataW H × List MemPlace}
    (hf : DataW.trod enc Yba.prog W 0 (fun _ => true) true fuel 56 [.slice ao len cap] = some x) : ∃ o m e p, IsNodes W ao len o m e p := by
  rcases Go.Deep.open_slice Yba.underlying56 hf with ⟨hcs, _⟩ | ⟨a, len', cap', mm, n, D, Pl, hcs, _, hl, hm, hmm, _, hx⟩
  · simp at hcs
    obtain ⟨rfl, rfl, rfl⟩ := hcs
    exact ⟨fun _ => 0, fun _ => 0, fun _ => 0, fun _ => 0, by unfold maxLen; omega, fun h => by omega, fun _ => by simp, fun _ => by simp, fun _ => by simp, fun _ => by simp⟩
  · simp at hcs
    obtain ⟨rfl, rfl, rfl⟩ := hcs
    have c70 : Yba.prog.cellsOf 70 = 4 := by kernel_rfl
    have hlm : len ≤ mm := by simp at hmm; omega
    have each : ∀ i, ∃ q : Int × Int × Int × Int, ((0 ≤ q.1 ∧ q.1 ≤ 255) ∧ (0 ≤ q.2.1 ∧ q.2.1 ≤ 65535) ∧ (0 ≤ q.2.2.1 ∧ q.2.2.1 ≤ 255) ∧ (0 ≤ q.2.2.2 ∧ q.2.2.2 ≤ 65535)) ∧ (i < len →
        W.cell? ((a.add (i * 4)).add 0) = some (.int .u8 q.1) ∧ W.cell? ((a.add (i * 4)).add 1) = some (.int .u16 q.2.1) ∧ W.cell? ((a.add (i * 4)).add 2) = some (.int .u8 q.2.2.1) ∧ W.cell? ((a.add (i * 4)).add 3) = some (.int .u16 q.2.2.2)) := by
      intro i
      by_cases hi : i < len
      · obtain ⟨cs', h1, h2⟩ := hx i (by omega)
        rw [c70] at h1
        obtain ⟨o, m, e, p, b0, b1, b2, b3, c0, c1, c2, c3⟩ := open_elem h1 h2
        exact ⟨(o, m, e, p), ⟨b0, b1, b2, b3⟩, fun _ => ⟨c0, c1, c2, c3⟩⟩
      · exact ⟨(0, 0, 0, 0), by simp, fun h => absurd h hi⟩
    obtain ⟨q, hq⟩ := choose_all each
    refine ⟨fun i => (q i).1, fun i => (q i).2.1, fun i => (q i).2.2.1, fun i => (q i).2.2.2, by omega, ?_, fun i => (hq i).1.1, fun i => (hq i).1.2.1, fun i => (hq i).1.2.2.1, fun i => (hq i).1.2.2.2⟩
    intro h0
    obtain ⟨b, off, spot⟩ := a
    have hc0 := ((hq 0).2 h0).1
    have hspot : spot = none := by simpa [Addr.add] using World.cell?_spot hc0
    subst hspot
    refine ⟨b, off, rfl, by simpa [Addr.add] using World.block_lt_of_cell? _ _ hc0, fun i hi => ?_⟩
    have := (hq i).2 hi
    simp only [addr_add, Nat.add_zero] at this
    exact this

set_option maxRecDepth 100000 in
theorem treeLifted (os : Os) (started : os.Started) (H : Type) (enc : TypeId × Value → H) :
    ReturnsInHanded {} Yba.checked os 4 .any (Rows.lawS2624BTreeMinSpec.pre6 enc Yba.prog Yba.f4 Rows.lawS2624BTreeMinRow.domain false) (Rows.lawS2624BTreeMinSpec.post enc Yba.prog Yba.f4 false true false false) := by
  refine returnsInHanded_of_change (C := Yba.checked) treeOwn started (by kernel_rfl) Yba.func4
    (ChangeSpec.witness6 (enc := enc) (C := Yba.checked) false ⟨#[], #[.slice none 0 0], []⟩ 8 (by kernel_rfl) (by kernel_rfl) (by kernel_rfl) (by kernel_rfl)) ?_
  intro W base args ds gs before hval0 hW hcnd _
  have hval : ∀ (j : Nat) t v, Yba.f4.params[j]? = some t → args[j]? = some v → Value.okWide Yba.prog W .any base t v := hval0
  have hW' := hW
  obtain ⟨p, q, hA0, hV, rfl, hfz, hnd⟩ := hW
  have hA : DataW.TrodAll enc Yba.prog W 0 (fun _ => true) true Yba.f4.params.toList args.toList ds p := hA0
  rw [Yba.params4] at hA hval
  obtain ⟨v0, vs0, d0, ds0, p0, q0, hargs, rfl, rfl, h0, r0⟩ := trodAll_cons hA
  obtain ⟨rfl, rfl, rfl⟩ := trodAll_nil r0
  obtain rfl : args = #[v0] := by cases args; simp_all
  obtain ⟨rfl, rfl⟩ := trodVars_none hV
  obtain ⟨a0, len0, cap0, rfl⟩ := okWide_slice Yba.underlying56 (hval 0 56 v0 rfl rfl)
  have k0 := h0
  have lt0 : ∀ x ∈ p0, x.block < W.heap.size := by obtain ⟨m, hm⟩ := k0; exact DataW.trod_lt m _ _ _ hm
  obtain ⟨o, m, e, pp, hN⟩ : ∃ o m e p, IsNodes W a0 len0 o m e p := by
    obtain ⟨fuel, hf⟩ := h0
    exact open_nodes hf
  clear hA0 hval0
  refine (law_any W a0 len0 cap0 o m e pp hN).mono fun e W' ⟨he, bel⟩ => ?_
  subst he
  exact ⟨_, rfl, _, _, _, [], _, [], hW', trodAll_mk1 (shut_bool Yba.underlying4 _), (trodAll_cons_mk (Below.trod treeLaidOut (by kernel_rfl) (of_decide_eq_true (by kernel_rfl)) k0 bel lt0) trodAll_mk0), rfl, bel.frame _, fun h => by cases h⟩

theorem treeOver : Rows.lawS2624BTreeMinRow.holds Yba.pinned (OpenSpec.ofChange Rows.lawS2624BTreeMinSpec) :=
  OpenClaim.holds_of_wide 4 Yba.f4 rfl rfl rfl rfl rfl rfl rfl ⟨rfl, rfl, rfl, rfl, rfl⟩ rfl rfl rfl rfl rfl (by kernel_rfl) Yba.func4 (by kernel_rfl)
    (of_decide_eq_true (by kernel_rfl)) (by unfold Func.isWrapper; first | (rw [if_pos (by decide +kernel)]; kernel_rfl) | (rw [if_neg (by decide +kernel)]; exact ⟨rfl, rfl⟩))
    (fun os started H enc _ => treeLifted os started H enc)

/-- THE STATEMENT. -/
theorem treeMin_proved : Rows.LawS2624BTreeMinSaid := treeOver
end Go.Proofs.Ybulkbbhy.Tree
