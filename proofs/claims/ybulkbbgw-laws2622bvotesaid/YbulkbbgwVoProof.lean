/-
  LawS2622BVote: the row.
-/
import Derived.Test.YbulkbbgwVoW
import Derived.ProofKit
import Derived.OpenShut
import Derived.ShutString
import Derived.ChangeOld
import Derived.Below
import Derived.Deep.Slices
namespace Go.Proofs.Ybulkbbgw.Vo
open Go.ChangeShapes Go.WideShapes Go.ChangeAt Go.RowKit

theorem voOwn : ownKnob Yba.prog.godebug = none := by kernel_rfl
theorem voLaidOut : laidOutB Yba.prog = true := by kernel_rfl

/-- A slice whose elements are one cell each: what the walk is told of it. -/
theorem open_in {H : Type} {enc : TypeId × Value → H} {W : World} {fuel : Nat} {t e : TypeId} {ao : Option Addr} {n cap : Nat} {x : DataW H × List MemPlace} {α : Type} [Inhabited α] {f : α → Value} {p : α → Prop} (ht : Yba.prog.underlying t = some (.slice e)) (hc : Yba.prog.cellsOf e = 1) (hp : p default)
    (hel : ∀ (fl : Nat) (v : Value) (y : DataW H × List MemPlace), DataW.trod enc Yba.prog W 0 (fun _ => true) true fl e [v] = some y → ∃ a, v = f a ∧ p a)
    (hf : DataW.trod enc Yba.prog W 0 (fun _ => true) true fuel t [.slice ao n cap] = some x) : ∃ g : Nat → α, InS W ao n (fun i => f (g i)) ∧ ∀ i, p (g i) := by
  rcases Go.Deep.open_slice1 ht hc hf with ⟨hcs, _⟩ | ⟨a, len, cap', mm, nn, V, D, Pl, hcs, _, hl, hm, hmm, hxx, hx⟩
  · simp at hcs
    obtain ⟨rfl, rfl, rfl⟩ := hcs
    exact ⟨fun _ => default, ⟨by unfold maxLen; omega, fun h => by omega⟩, fun _ => hp⟩
  · simp at hcs
    obtain ⟨rfl, rfl, rfl⟩ := hcs
    have hlm : n ≤ mm := by simp at hmm; omega
    have each : ∀ i, ∃ q : α, p q ∧ (i < n → W.cell? (a.add i) = some (f q)) := by
      intro i
      by_cases hi : i < n
      · obtain ⟨h1, h2⟩ := hx i (by omega)
        obtain ⟨q, hq, hpq⟩ := hel _ _ _ h2
        exact ⟨q, hpq, fun _ => by rw [h1, hq]⟩
      · exact ⟨default, hp, fun h => absurd h hi⟩
    obtain ⟨b, off, spot⟩ := a
    refine ⟨fun i => Classical.choose (each i), ⟨by omega, fun h0 => ?_⟩, fun i => (Classical.choose_spec (each i)).1⟩
    have hc0 := (Classical.choose_spec (each 0)).2 h0
    have hspot : spot = none := by simpa [Addr.add] using World.cell?_spot hc0
    subst hspot
    refine ⟨b, off, rfl, by simpa [Addr.add] using World.block_lt_of_cell? _ _ hc0, fun i hi => ?_⟩
    have := (Classical.choose_spec (each i)).2 hi
    exact (congrArg W.cell? (addr_add b off i).symm).trans this

set_option maxRecDepth 100000 in
theorem voteLifted (os : Os) (started : os.Started) (H : Type) (enc : TypeId × Value → H) :
    ReturnsInHanded {} Yba.checked os 3 .any (Rows.lawS2622BVoteSpec.pre6 enc Yba.prog Yba.f3 Rows.lawS2622BVoteRow.domain false) (Rows.lawS2622BVoteSpec.post enc Yba.prog Yba.f3 false true false false) := by
  refine returnsInHanded_of_change (C := Yba.checked) voOwn started (by kernel_rfl) Yba.func3
    (ChangeSpec.witness6 (enc := enc) (C := Yba.checked) false ⟨#[], #[.int .u8 0, .int .u8 0, .int .u8 0, .slice none 0 0, .slice none 0 0, .slice none 0 0, .slice none 0 0], []⟩ 8 (by kernel_rfl) (by kernel_rfl) (by kernel_rfl) (by kernel_rfl)) ?_
  intro W base args ds gs before hval0 hW hcnd _
  have hval : ∀ (j : Nat) t v, Yba.f3.params[j]? = some t → args[j]? = some v → Value.okWide Yba.prog W .any base t v := hval0
  have hW' := hW
  obtain ⟨p, q, hA0, hV, rfl, hfz, hnd⟩ := hW
  have hA : DataW.TrodAll enc Yba.prog W 0 (fun _ => true) true Yba.f3.params.toList args.toList ds p := hA0
  rw [Yba.params3] at hA hval
  obtain ⟨v0, vs0, d0, ds0, p0, q0, hargs, rfl, rfl, h0, r0⟩ := trodAll_cons hA
  obtain ⟨v1, vs1, d1, ds1, p1, q1, rfl, rfl, rfl, h1, r1⟩ := trodAll_cons r0
  obtain ⟨v2, vs2, d2, ds2, p2, q2, rfl, rfl, rfl, h2, r2⟩ := trodAll_cons r1
  obtain ⟨v3, vs3, d3, ds3, p3, q3, rfl, rfl, rfl, h3, r3⟩ := trodAll_cons r2
  obtain ⟨v4, vs4, d4, ds4, p4, q4, rfl, rfl, rfl, h4, r4⟩ := trodAll_cons r3
  obtain ⟨v5, vs5, d5, ds5, p5, q5, rfl, rfl, rfl, h5, r5⟩ := trodAll_cons r4
  obtain ⟨v6, vs6, d6, ds6, p6, q6, rfl, rfl, rfl, h6, r6⟩ := trodAll_cons r5
  obtain ⟨rfl, rfl, rfl⟩ := trodAll_nil r6
  obtain rfl : args = #[v0, v1, v2, v3, v4, v5, v6] := by cases args; simp_all
  obtain ⟨rfl, rfl⟩ := trodVars_none hV
  obtain ⟨ns0, rfl⟩ := okWide_int Yba.underlying5 (hval 0 5 v0 rfl rfl)
  obtain ⟨cs0, rfl⟩ := okWide_int Yba.underlying5 (hval 1 5 v1 rfl rfl)
  obtain ⟨im0, rfl⟩ := okWide_int Yba.underlying5 (hval 2 5 v2 rfl rfl)
  obtain ⟨a3, n3, k3, rfl⟩ := okWide_slice Yba.underlying22 (hval 3 22 v3 rfl rfl)
  obtain ⟨a4, n4, k4, rfl⟩ := okWide_slice Yba.underlying23 (hval 4 23 v4 rfl rfl)
  obtain ⟨a5, n5, k5, rfl⟩ := okWide_slice Yba.underlying24 (hval 5 24 v5 rfl rfl)
  obtain ⟨a6, n6, k6, rfl⟩ := okWide_slice Yba.underlying23 (hval 6 23 v6 rfl rfl)
  have lt0 : ∀ x ∈ p0, x.block < W.heap.size := by obtain ⟨m, hm⟩ := h0; exact DataW.trod_lt m _ _ _ hm
  have lt1 : ∀ x ∈ p1, x.block < W.heap.size := by obtain ⟨m, hm⟩ := h1; exact DataW.trod_lt m _ _ _ hm
  have lt2 : ∀ x ∈ p2, x.block < W.heap.size := by obtain ⟨m, hm⟩ := h2; exact DataW.trod_lt m _ _ _ hm
  have lt3 : ∀ x ∈ p3, x.block < W.heap.size := by obtain ⟨m, hm⟩ := h3; exact DataW.trod_lt m _ _ _ hm
  have lt4 : ∀ x ∈ p4, x.block < W.heap.size := by obtain ⟨m, hm⟩ := h4; exact DataW.trod_lt m _ _ _ hm
  have lt5 : ∀ x ∈ p5, x.block < W.heap.size := by obtain ⟨m, hm⟩ := h5; exact DataW.trod_lt m _ _ _ hm
  have lt6 : ∀ x ∈ p6, x.block < W.heap.size := by obtain ⟨m, hm⟩ := h6; exact DataW.trod_lt m _ _ _ hm
  have el8 : ∀ (fl : Nat) (v : Value) (y : DataW H × List MemPlace), DataW.trod enc Yba.prog W 0 (fun _ => true) true fl 37 [v] = some y → ∃ a : Int, v = .int .i8 a ∧ (-128 ≤ a ∧ a ≤ 127) := fun fl v y hy => by
    obtain ⟨n, e, _, wf⟩ := DataW.trod_int Yba.underlying37 hy
    simp at e
    exact ⟨n, e, bounds_i8 wf⟩
  have elu : ∀ (fl : Nat) (v : Value) (y : DataW H × List MemPlace), DataW.trod enc Yba.prog W 0 (fun _ => true) true fl 5 [v] = some y → ∃ a : Int, v = .int .u8 a ∧ (0 ≤ a ∧ a ≤ 255) := fun fl v y hy => by
    obtain ⟨n, e, _, wf⟩ := DataW.trod_int Yba.underlying5 hy
    simp at e
    exact ⟨n, e, bounds_u8 wf⟩
  have elb : ∀ (fl : Nat) (v : Value) (y : DataW H × List MemPlace), DataW.trod enc Yba.prog W 0 (fun _ => true) true fl 4 [v] = some y → ∃ a : Bool, v = .bool a ∧ True := fun fl v y hy => by
    obtain ⟨n, e, _⟩ := DataW.trod_bool Yba.underlying4 hy
    simp at e
    exact ⟨n, e, trivial⟩
  have u8 : ∀ {z : Int} {d : DataW H} {pp : List MemPlace}, DataW.Trod enc Yba.prog W 0 (fun _ => true) true 5 (.int .u8 z) d pp → ∃ m : Nat, m < 256 ∧ (m : Int) = z := fun h => by
    obtain ⟨m, hm⟩ := h
    obtain ⟨a, e, b1, b2⟩ := elu m _ _ hm
    simp at e
    subst e
    exact ⟨_, by omega, Int.toNat_of_nonneg b1⟩
  obtain ⟨ns, hns, rfl⟩ := u8 h0
  obtain ⟨cs, hcs, rfl⟩ := u8 h1
  obtain ⟨im, him, rfl⟩ := u8 h2
  obtain ⟨x3, i3, b3⟩ : ∃ g : Nat → Int, InS W a3 n3 (fun i => .int .u8 (g i)) ∧ ∀ i, 0 ≤ g i ∧ g i ≤ 255 := by
    obtain ⟨fuel, hf⟩ := h3
    exact open_in (α := Int) (f := fun z => .int .u8 z) Yba.underlying22 (by kernel_rfl) (show (0 : Int) ≤ default ∧ (default : Int) ≤ 255 by decide) elu hf
  obtain ⟨x4, i4, b4⟩ : ∃ g : Nat → Int, InS W a4 n4 (fun i => .int .i8 (g i)) ∧ ∀ i, -128 ≤ g i ∧ g i ≤ 127 := by
    obtain ⟨fuel, hf⟩ := h4
    exact open_in (α := Int) (f := fun z => .int .i8 z) Yba.underlying23 (by kernel_rfl) (show (-128 : Int) ≤ default ∧ (default : Int) ≤ 127 by decide) el8 hf
  obtain ⟨x5, i5, -⟩ : ∃ g : Nat → Bool, InS W a5 n5 (fun i => .bool (g i)) ∧ ∀ _ : Nat, True := by
    obtain ⟨fuel, hf⟩ := h5
    exact open_in (α := Bool) (f := fun z => .bool z) (p := fun _ => True) Yba.underlying24 (by kernel_rfl) trivial elb hf
  obtain ⟨x6, i6, b6⟩ : ∃ g : Nat → Int, InS W a6 n6 (fun i => .int .i8 (g i)) ∧ ∀ i, -128 ≤ g i ∧ g i ≤ 127 := by
    obtain ⟨fuel, hf⟩ := h6
    exact open_in (α := Int) (f := fun z => .int .i8 z) Yba.underlying23 (by kernel_rfl) (show (-128 : Int) ≤ default ∧ (default : Int) ≤ 127 by decide) el8 hf
  clear hA0 hval0 el8 elu elb u8
  refine (law_walk W ns cs im hns hcs a3 a4 a5 a6 n3 n4 n5 n6 k3 k4 k5 k6 x3 x4 x6 x5 i3 i4 i5 i6 b3 b4 b6).mono fun e W' ⟨he, bel⟩ => ?_
  subst he
  exact ⟨_, rfl, _, _, _, [], _, [], hW', trodAll_mk1 (shut_bool Yba.underlying4 _),
    (trodAll_cons_mk (Below.trod voLaidOut (by kernel_rfl) (of_decide_eq_true (by kernel_rfl)) h0 bel lt0) (trodAll_cons_mk (Below.trod voLaidOut (by kernel_rfl) (of_decide_eq_true (by kernel_rfl)) h1 bel lt1) (trodAll_cons_mk (Below.trod voLaidOut (by kernel_rfl) (of_decide_eq_true (by kernel_rfl)) h2 bel lt2)
      (trodAll_cons_mk (Below.trod voLaidOut (by kernel_rfl) (of_decide_eq_true (by kernel_rfl)) h3 bel lt3) (trodAll_cons_mk (Below.trod voLaidOut (by kernel_rfl) (of_decide_eq_true (by kernel_rfl)) h4 bel lt4) (trodAll_cons_mk (Below.trod voLaidOut (by kernel_rfl) (of_decide_eq_true (by kernel_rfl)) h5 bel lt5)
      (trodAll_cons_mk (Below.trod voLaidOut (by kernel_rfl) (of_decide_eq_true (by kernel_rfl)) h6 bel lt6) trodAll_mk0))))))), rfl, bel.frame _, fun h => by cases h⟩

theorem voteOver : Rows.lawS2622BVoteRow.holds Yba.pinned (OpenSpec.ofChange Rows.lawS2622BVoteSpec) :=
  OpenClaim.holds_of_wide 3 Yba.f3 rfl rfl rfl rfl rfl rfl rfl ⟨rfl, rfl, rfl, rfl, rfl⟩ rfl rfl rfl rfl rfl (by kernel_rfl) Yba.func3 (by kernel_rfl)
    (of_decide_eq_true (by kernel_rfl)) (by unfold Func.isWrapper; first | (rw [if_pos (by decide +kernel)]; kernel_rfl) | (rw [if_neg (by decide +kernel)]; exact ⟨rfl, rfl⟩))
    (fun os started H enc _ => voteLifted os started H enc)

/-- THE STATEMENT. -/
theorem vote_proved : Rows.LawS2622BVoteSaid := voteOver
end Go.Proofs.Ybulkbbgw.Vo
