/-
  LawS2624AMerge: the row.
-/
import Derived.Test.YbulkbbhyMgLaw
import Derived.ProofKit
import Derived.OpenShut
import Derived.ShutString
import Derived.ChangeOld
import Derived.Below
import Derived.Deep.Slices
import Derived.SizedLaws
namespace Go.Proofs.Ybulkbbhy.Mg
open Go.ChangeShapes Go.WideShapes Go.ChangeAt Go.RowKit

theorem mgOwn : ownKnob Yba.prog.godebug = none := by kernel_rfl
theorem mgLaidOut : laidOutB Yba.prog = true := by kernel_rfl

theorem addr_add (b off j : Nat) : (⟨b, off, none⟩ : Addr).add j = ⟨b, off + j, none⟩ := by
  unfold Addr.add; split <;> simp_all
theorem choose_all {α : Type} {p : Nat → α → Prop} (h : ∀ i, ∃ x, p i x) : ∃ f : Nat → α, ∀ i, p i (f i) :=
  ⟨fun i => Classical.choose (h i), fun i => Classical.choose_spec (h i)⟩
theorem weightsAll_mem {H : Type} {P : Program} {e : TypeId} : ∀ {l : List (DataW H)} {d : DataW H}, d ∈ l → ∀ n ∈ d.weights P e, n ∈ DataW.weightsAll P e l
  | d0 :: r, d, h, n, hn => by
    simp only [DataW.weightsAll, List.mem_append]
    rcases List.mem_cons.1 h with rfl | h
    · exact Or.inl hn
    · exact Or.inr (weightsAll_mem h n hn)
  | [], _, h, _, _ => by simp at h

/-- One entry. -/
theorem open_entry {H : Type} {enc : TypeId × Value → H} {w : World} {sp : Nat → Bool} {held : Bool} {fuel : Nat} {a : Addr} {cs : List Value} {x : DataW H × List MemPlace}
    (h1 : w.cells? 0 a 2 = some cs) (h2 : DataW.trod enc Yba.prog w 0 sp held fuel 30 cs = some x) :
    ∃ o m : Nat, o < 256 ∧ m < 4294967296 ∧ w.cell? (a.add 0) = some (.int .u8 o) ∧ w.cell? (a.add 1) = some (.int .u32 m) := by
  obtain ⟨_, hlen, hcell⟩ := World.cells?_some h1
  obtain ⟨xs, k, _, _, _, hxl, hf⟩ := DataW.trod_struct Yba.underlying30 h2
  have c5 : Yba.prog.cellsOf 5 = 1 := by kernel_rfl
  have c28 : Yba.prog.cellsOf 28 = 1 := by kernel_rfl
  match xs, hxl, cs, hlen with
  | [y0, y1], _, [v0, v1], _ =>
    have f0 := hf 0 _ rfl
    have f1 := hf 1 _ rfl
    simp [c5, c28] at f0 f1
    obtain ⟨n0, e0, _, w0⟩ := DataW.trod_int Yba.underlying5 f0
    obtain ⟨n1, e1, _, w1⟩ := DataW.trod_int Yba.underlying28 f1
    simp at e0 e1
    subst e0 e1
    have b0 := bounds_u8 w0
    have b1 := bounds_u32 w1
    have t0 : ((n0.toNat : Nat) : Int) = n0 := by omega
    have t1 : ((n1.toNat : Nat) : Int) = n1 := by omega
    exact ⟨n0.toNat, n1.toNat, by omega, by omega, by rw [t0]; exact hcell 0 (by omega), by rw [t1]; exact hcell 1 (by omega)⟩

/-- What is known of one list. -/
structure LQ where
  la : Option Addr
  n : Nat
  lc : Nat
  lb : Nat
  lo : Nat
  stp : Nat → Nat
  cnt : Nat → Nat

theorem bytes30 : Yba.prog.bytesOf 30 = 8 := by kernel_rfl

theorem open_inner {H : Type} {enc : TypeId × Value → H} {W : World} {fuel : Nat} {v : Value} {x : DataW H × List MemPlace}
    (hf : DataW.trod enc Yba.prog W 0 (fun _ => true) true fuel 23 [v] = some x) :
    ∃ q : LQ, v = .slice q.la q.n q.lc ∧ (∀ i, q.stp i < 256) ∧ (∀ i, q.cnt i < 4294967296) ∧ (0 < q.n → q.la = some ⟨q.lb, q.lo, none⟩ ∧ q.lb < W.heap.size) ∧
      (∀ i, i < q.n → W.cell? ⟨q.lb, q.lo + i * 2, none⟩ = some (.int .u8 (q.stp i)) ∧ W.cell? ⟨q.lb, q.lo + i * 2 + 1, none⟩ = some (.int .u32 (q.cnt i))) ∧
      (q.n = 0 ∨ ∃ g ∈ x.1.weights Yba.prog 23, q.n * 8 ≤ g) := by
  rcases Go.Deep.open_slice Yba.underlying23 hf with ⟨hcs, _⟩ | ⟨a, len, cap, mm, n, D, Pl, hcs, _, hl, hm, hmm, hxx, hx⟩
  · simp at hcs
    subst hcs
    exact ⟨⟨none, 0, 0, 0, 0, fun _ => 0, fun _ => 0⟩, rfl, fun _ => by simp, fun _ => by simp, fun h => by simp at h, fun i h => by simp at h, .inl rfl⟩
  · simp at hcs
    subst hcs
    have c30 : Yba.prog.cellsOf 30 = 2 := by kernel_rfl
    have hlm : len ≤ mm := by simp at hmm; omega
    have each : ∀ i, ∃ q : Nat × Nat, (q.1 < 256 ∧ q.2 < 4294967296) ∧ (i < len → W.cell? ((a.add (i * 2)).add 0) = some (.int .u8 q.1) ∧ W.cell? ((a.add (i * 2)).add 1) = some (.int .u32 q.2)) := by
      intro i
      by_cases hi : i < len
      · obtain ⟨cs', h1, h2⟩ := hx i (by omega)
        rw [c30] at h1
        obtain ⟨o, m, b0, b1, c0, c1⟩ := open_entry h1 h2
        exact ⟨(o, m), ⟨b0, b1⟩, fun _ => ⟨c0, c1⟩⟩
      · exact ⟨(0, 0), by simp, fun h => absurd h hi⟩
    obtain ⟨q, hq⟩ := choose_all each
    obtain ⟨b, off, spot⟩ := a
    have hsp : 0 < len → spot = none ∧ b < W.heap.size := fun h0 => by
      have hc0 := ((hq 0).2 h0).1
      exact ⟨by simpa [Addr.add] using World.cell?_spot hc0, by simpa [Addr.add] using World.block_lt_of_cell? _ _ hc0⟩
    refine ⟨⟨some ⟨b, off, spot⟩, len, cap, b, off, fun i => (q i).1, fun i => (q i).2⟩, rfl, fun i => (hq i).1.1, fun i => (hq i).1.2, fun h0 => ?_, fun i hi => ?_, .inr ⟨(((List.range len).map D).length + ((List.range (mm - len)).map fun j => D (len + j)).length) * 8, ?_, ?_⟩⟩
    · obtain ⟨rfl, h⟩ := hsp h0
      exact ⟨rfl, h⟩
    · obtain ⟨rfl, h⟩ := hsp (Nat.lt_of_le_of_lt (Nat.zero_le _) hi)
      have := (hq i).2 hi
      simp only [addr_add, Nat.add_zero] at this
      exact this
    · rw [hxx]
      simp [DataW.weights, Yba.underlying23, bytes30]
    · simp
      omega

theorem open_lists {H : Type} {enc : TypeId × Value → H} {W : World} {fuel : Nat} {ao : Option Addr} {S cap : Nat} {x : DataW H × List MemPlace}
    (hf : DataW.trod enc Yba.prog W 0 (fun _ => true) true fuel 22 [.slice ao S cap] = some x) (hz : ∀ g ∈ x.1.weights Yba.prog 22, g ≤ reachBytes) :
    ∃ b o n lc lb lo la stp cnt, InAt W ao b o S n lc lb lo la stp cnt := by
  rcases Go.Deep.open_slice1 Yba.underlying22 (by kernel_rfl) hf with ⟨hcs, _⟩ | ⟨a, len, cap', mm, n, V, D, Pl, hcs, _, hl, hm, hmm, hxx, hx⟩
  · simp at hcs
    obtain ⟨rfl, rfl, rfl⟩ := hcs
    exact ⟨0, 0, fun _ => 0, fun _ => 0, fun _ => 0, fun _ => 0, fun _ => none, fun _ _ => 0, fun _ _ => 0, fun h => by omega, fun s h => by omega, fun s h => by omega, fun s i h => by omega, fun s i h => by omega, fun s h => by omega, fun _ _ => by simp, fun _ _ => by simp⟩
  · simp at hcs
    obtain ⟨rfl, rfl, rfl⟩ := hcs
    have hlm : S ≤ mm := by simp at hmm; omega
    have each : ∀ s, ∃ q : LQ, (∀ i, q.stp i < 256) ∧ (∀ i, q.cnt i < 4294967296) ∧ (s < S → W.cell? (a.add s) = some (.slice q.la q.n q.lc) ∧ (0 < q.n → q.la = some ⟨q.lb, q.lo, none⟩ ∧ q.lb < W.heap.size) ∧
        (∀ i, i < q.n → W.cell? ⟨q.lb, q.lo + i * 2, none⟩ = some (.int .u8 (q.stp i)) ∧ W.cell? ⟨q.lb, q.lo + i * 2 + 1, none⟩ = some (.int .u32 (q.cnt i))) ∧ q.n ≤ 17592186043904) := by
      intro s
      by_cases hs : s < S
      · obtain ⟨h1, h2⟩ := hx s (by omega)
        obtain ⟨q, hv, q1, q2, q3, q4, q5⟩ := open_inner h2
        rw [hv] at h1
        refine ⟨q, q1, q2, fun _ => ⟨h1, q3, q4, ?_⟩⟩
        rcases q5 with q5 | ⟨g, hg, hle⟩
        · omega
        · have hgr : g ≤ reachBytes := hz g (by
            rw [hxx]
            simp only [DataW.weights, Yba.underlying22]
            refine List.mem_cons_of_mem _ (List.mem_append_left _ (weightsAll_mem (d := D s) ?_ g hg))
            exact List.mem_map.2 ⟨s, by simpa using hs, rfl⟩)
          unfold reachBytes at hgr
          omega
      · exact ⟨⟨none, 0, 0, 0, 0, fun _ => 0, fun _ => 0⟩, fun _ => by simp, fun _ => by simp, fun h => absurd h hs⟩
    obtain ⟨q, hq⟩ := choose_all each
    obtain ⟨b, off, spot⟩ := a
    have hsp : 0 < S → spot = none ∧ b < W.heap.size := fun h0 => by
      have hc0 := ((hq 0).2.2 h0).1
      exact ⟨by simpa [Addr.add] using World.cell?_spot hc0, by simpa [Addr.add] using World.block_lt_of_cell? _ _ hc0⟩
    refine ⟨b, off, fun s => (q s).n, fun s => (q s).lc, fun s => (q s).lb, fun s => (q s).lo, fun s => (q s).la, fun s => (q s).stp, fun s => (q s).cnt, fun h0 => ?_, fun s hs => ?_, fun s hs h0 => ((hq s).2.2 hs).2.1 h0, fun s i hs hi => (((hq s).2.2 hs).2.2.1 i hi).1, fun s i hs hi => (((hq s).2.2 hs).2.2.1 i hi).2, fun s hs => ((hq s).2.2 hs).2.2.2, fun s i => (hq s).1 i, fun s i => (hq s).2.1 i⟩
    · obtain ⟨rfl, h⟩ := hsp h0
      exact ⟨rfl, h⟩
    · obtain ⟨rfl, h⟩ := hsp (Nat.lt_of_le_of_lt (Nat.zero_le _) hs)
      have := ((hq s).2.2 hs).1
      rw [addr_add] at this
      exact this

theorem law_any (w : World) (a : Option Addr) (cap b o S : Nat) (n lc lb lo : Nat → Nat) (la : Nat → Option Addr) (stp cnt : Nat → Nat → Nat) (H : InAt w a b o S n lc lb lo la stp cnt) :
    Calls Yba.prog 3 #[.slice a S cap] w fun e w' => e = .returned (.bool true) ∧ Below w.heap.size w w' := by
  by_cases h : 256 < S
  · exact law_long w a S cap h
  · exact law_walk w a cap b o S n lc lb lo la stp cnt H (by omega)

set_option maxRecDepth 100000 in
theorem mergeLifted (os : Os) (started : os.Started) (H : Type) (enc : TypeId × Value → H) :
    ReturnsInHanded {} Yba.checked os 3 .any (Rows.lawS2624AMergeSpec.pre6 enc Yba.prog Yba.f3 Rows.lawS2624AMergeRow.domain false) (Rows.lawS2624AMergeSpec.post enc Yba.prog Yba.f3 false true false false) := by
  refine returnsInHanded_of_change_sized (C := Yba.checked) mgOwn started (by kernel_rfl) Yba.func3
    (ChangeSpec.witness6 (enc := enc) (C := Yba.checked) false ⟨#[], #[.slice none 0 0], []⟩ 8 (by kernel_rfl) (by kernel_rfl) (by kernel_rfl) (by kernel_rfl)) ?_
  intro W base args ds gs before hval0 hW hcnd hsz0 _
  have hval : ∀ (j : Nat) t v, Yba.f3.params[j]? = some t → args[j]? = some v → Value.okWide Yba.prog W .any base t v := hval0
  have hsz : (DataW.weightsEach Yba.prog (Yba.f3.params.toList ++ Rows.lawS2624AMergeSpec.plain.varTypes Yba.prog) (ds ++ gs)).all (· ≤ reachBytes) = true := hsz0
  have hW' := hW
  obtain ⟨p, q, hA0, hV, rfl, hfz, hnd⟩ := hW
  have hA : DataW.TrodAll enc Yba.prog W 0 (fun _ => true) true Yba.f3.params.toList args.toList ds p := hA0
  rw [Yba.params3] at hA hval hsz
  obtain ⟨v0, vs0, d0, ds0, p0, q0, hargs, rfl, rfl, h0, r0⟩ := trodAll_cons hA
  obtain ⟨rfl, rfl, rfl⟩ := trodAll_nil r0
  obtain rfl : args = #[v0] := by cases args; simp_all
  obtain ⟨rfl, rfl⟩ := trodVars_none hV
  obtain ⟨a0, len0, cap0, rfl⟩ := okWide_slice Yba.underlying22 (hval 0 22 v0 rfl rfl)
  have k0 := h0
  have lt0 : ∀ x ∈ p0, x.block < W.heap.size := by obtain ⟨m, hm⟩ := k0; exact DataW.trod_lt m _ _ _ hm
  have hz : ∀ g ∈ d0.weights Yba.prog 22, g ≤ reachBytes := fun g hg => by
    have := List.all_eq_true.1 hsz g (DataW.weights_mem_each (j := 0) (t := 22) rfl rfl g hg)
    simpa using this
  obtain ⟨b, o, n, lc, lb, lo, la, stp, cnt, hI⟩ : ∃ b o n lc lb lo la stp cnt, InAt W a0 b o len0 n lc lb lo la stp cnt := by
    obtain ⟨fuel, hf⟩ := h0
    exact open_lists hf hz
  clear hA0 hval0 hsz0
  refine (law_any W a0 cap0 b o len0 n lc lb lo la stp cnt hI).mono fun e W' ⟨he, bel⟩ => ?_
  subst he
  exact ⟨_, rfl, _, _, _, [], _, [], hW', trodAll_mk1 (shut_bool Yba.underlying4 _), (trodAll_cons_mk (Below.trod mgLaidOut (by kernel_rfl) (of_decide_eq_true (by kernel_rfl)) k0 bel lt0) trodAll_mk0), rfl, bel.frame _, fun h => by cases h⟩

theorem mergeOver : Rows.lawS2624AMergeRow.holds Yba.pinned (OpenSpec.ofChange Rows.lawS2624AMergeSpec) :=
  OpenClaim.holds_of_wide 3 Yba.f3 rfl rfl rfl rfl rfl rfl rfl ⟨rfl, rfl, rfl, rfl, rfl⟩ rfl rfl rfl rfl rfl (by kernel_rfl) Yba.func3 (by kernel_rfl)
    (of_decide_eq_true (by kernel_rfl)) (by unfold Func.isWrapper; first | (rw [if_pos (by decide +kernel)]; kernel_rfl) | (rw [if_neg (by decide +kernel)]; exact ⟨rfl, rfl⟩))
    (fun os started H enc _ => mergeLifted os started H enc)

/-- THE STATEMENT. -/
theorem merge_proved : Rows.LawS2624AMergeSaid := mergeOver
end Go.Proofs.Ybulkbbhy.Mg
