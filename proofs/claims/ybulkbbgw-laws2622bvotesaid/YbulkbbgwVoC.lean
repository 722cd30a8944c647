/-
  (*configuration).count (15) BY ITS CONTRACT.
-/
import Derived.Test.YbulkbbgwVoB
import Derived.Deep.OwnRows
import Derived.Handy
namespace Go.Proofs.Ybulkbbgw.Vo
open Go.RowKit

/-- How many of the first n nodes are in. -/
def idx (inn : Nat → Bool) : Nat → Nat
  | 0 => 0
  | n + 1 => idx inn n + (if inn n = true then 1 else 0)
theorem idx_le (inn : Nat → Bool) : ∀ n, idx inn n ≤ n
  | 0 => Nat.le_refl _
  | n + 1 => by have := idx_le inn n; simp only [idx]; split <;> omega
/-- Who has lost, once the first k nodes are judged. -/
def lostF (inn : Nat → Bool) (rep : Nat → Rp) (won : Rp) (lost : Nat → Bool) (k n : Nat) : Bool := lost n || (decide (n < k) && inn n && decide (n ≠ 0) && decide (rep n ≠ won))
theorem lostF_skip {inn : Nat → Bool} {rep : Nat → Rp} {won : Rp} {lost : Nat → Bool} {k : Nat} (h : (inn k && decide (k ≠ 0) && decide (rep k ≠ won)) = false) (n : Nat) : lostF inn rep won lost k n = lostF inn rep won lost (k + 1) n := by
  unfold lostF
  by_cases e : n = k
  · subst e
    rw [decide_eq_false (Nat.lt_irrefl n), decide_eq_true (Nat.lt_succ_self n)]
    simp only [Bool.false_and, Bool.true_and, h]
  · rw [show decide (n < k) = decide (n < k + 1) from decide_eq_decide.2 (by omega)]
theorem lostF_hit {inn : Nat → Bool} {rep : Nat → Rp} {won : Rp} {lost : Nat → Bool} {k : Nat} (h : (inn k && decide (k ≠ 0) && decide (rep k ≠ won)) = true) (n : Nat) : (if n = k then Value.bool true else Value.bool (lostF inn rep won lost k n)) = Value.bool (lostF inn rep won lost (k + 1) n) := by
  split
  · rename_i e
    subst e
    unfold lostF
    rw [decide_eq_true (Nat.lt_succ_self n), Bool.true_and, h]
    simp
  · rename_i e
    unfold lostF
    rw [show decide (n < k) = decide (n < k + 1) from decide_eq_decide.2 (by omega)]

theorem grown_set (w : World) (b o : Nat) (v : Value) : w.grownBy (w.setCell ⟨b, o, none⟩ v) (some b) :=
  ⟨rfl, rfl, rfl, by simp, fun k hk hne => heap_setCell_other _ _ _ _ (fun e => hne (by rw [e]))⟩
theorem grown_trans {a b c : World} {row : Option Nat} (h : a.grownBy b row) (k : b.grownBy c row) : a.grownBy c row :=
  ⟨k.os.trans h.os, k.tape.trans h.tape, k.output.trans h.output, Nat.le_trans h.size k.size, fun x hx hne => (k.block x (Nat.lt_of_lt_of_le hx h.size) hne).trans (h.block x hx hne)⟩
theorem grown_refl (w : World) (row : Option Nat) : w.grownBy w row := ⟨rfl, rfl, rfl, Nat.le_refl _, fun _ _ _ => rfl⟩
theorem grown_drewN {a b : World} {row : Option Nat} (n : Nat) (h : a.grownBy b row) : a.grownBy (b.drewN n) row := ⟨h.os, h.tape, h.output, h.size, h.block⟩
theorem grown_alloc (w : World) (o : Obj) (row : Option Nat) : w.grownBy (w.alloc o) row :=
  ⟨rfl, rfl, rfl, by simp, fun k hk _ => Below.heap_alloc _ _ _ hk⟩

/-- While count runs. -/
structure CT (w wr : World) (lb N : Nat) (won : Rp) (g : Nat → Bool) : Prop where
  grown : w.grownBy wr (some lb)
  row : wr.rowIs lb 4 N (fun n => .bool (g n))
  box : RpBlk wr w.heap.size won
  lt : lb < w.heap.size
theorem CT.cell {w wr : World} {lb N : Nat} {won : Rp} {g : Nat → Bool} (h : CT w wr lb N won g) {p : Addr} (h1 : p.block < w.heap.size) (h2 : p.block ≠ lb) : wr.cell? p = w.cell? p :=
  World.cell?_of_block (h.grown.block _ h1 (by simp; exact h2))
theorem CT.drewN {w wr : World} {lb N : Nat} {won : Rp} {g : Nat → Bool} (h : CT w wr lb N won g) (n : Nat) : CT w (wr.drewN n) lb N won g := ⟨grown_drewN n h.grown, h.row, h.box, h.lt⟩
theorem CT.congr {w wr : World} {lb N : Nat} {won : Rp} {g g' : Nat → Bool} (h : CT w wr lb N won g) (e : ∀ n, g n = g' n) : CT w wr lb N won g' := ⟨h.grown, h.row.congr (fun i _ => by rw [e]), h.box, h.lt⟩
theorem CT.set {w wr : World} {lb N : Nat} {won : Rp} {g g' : Nat → Bool} (h : CT w wr lb N won g) (k : Nat) (e : ∀ n, (if n = k then Value.bool true else Value.bool (g n)) = Value.bool (g' n)) : CT w (wr.setCell ⟨lb, k, none⟩ (.bool true)) lb N won g' :=
  ⟨grown_trans h.grown (grown_set _ _ _ _), (h.row.set k _).congr (fun i _ => e i), h.box.of_block (heap_setCell_other _ _ _ _ (Nat.ne_of_gt h.lt)), h.lt⟩

set_option maxRecDepth 20000 in
set_option maxHeartbeats 2000000 in
theorem count_any (cb ib lb rb N L cap : Nat) (inn lost : Nat → Bool) (rep f : Nat → Rp) (won : Rp) (ao : Option Addr) (w : World) (hN : N ≤ 8)
    (h0 : w.cell? ⟨cb, 0, none⟩ = some (.int .i64 0)) (h1 : w.cell? ⟨cb, 1, none⟩ = some (.slice (some ⟨ib, 0, none⟩) N N)) (h6 : w.cell? ⟨cb, 6, none⟩ = some (.slice (some ⟨lb, 0, none⟩) N N))
    (hI : w.rowIs ib 4 N (fun n => .bool (inn n))) (hl : w.rowIs lb 4 N (fun n => .bool (lost n))) (hcb : cb < w.heap.size) (hlc : cb ≠ lb) (hli : ib ≠ lb)
    (hR : ∀ n, n < N → inn n = true → idx inn n < L ∧ f (idx inn n) = rep n) (hA : 0 < L → ao = some ⟨rb, 0, none⟩ ∧ rb < w.heap.size ∧ rb ≠ lb ∧ RpsAt w rb L f) :
    Calls Yba.prog 15 #[.pointer (some ⟨cb, 0, none⟩), .slice ao L cap, .agg #[.int .i64 won.v, .bool won.p]] w fun e w' => e = .returned (.tuple #[]) ∧ w.grownBy w' (some lb) ∧ w'.rowIs lb 4 N (fun n => .bool (lostF inn rep won lost N n)) := by
  have hlb := hl.lt
  have hst : CT w (w.alloc (.cells #[.int .i64 won.v, .bool won.p] 49)) lb N won (lostF inn rep won lost 0) :=
    ⟨grown_alloc _ _ _, (hl.alloc _).congr (fun i _ => by simp [lostF]), heap_alloc_new _ _, hlb⟩
  have H0 := hide hst
  have HH := hide (And.intro hI (And.intro hR hA))
  have HC := hide (And.intro h0 (And.intro h1 h6))
  clear hst hI hR hA hl
  go_enter Yba.func15, Yba.ntmps15
  go_wp2
  go_loopg [6, 14] N (fun gk x y wr => ∃ (n : Nat) (z : Int), x = .int .i64 (idx inn n) ∧ y = .int .i64 z ∧ z = n ∧ gk + n = N ∧ CT w wr lb N won (lostF inn rep won lost n))
  case atStart => exact ⟨0, 0, rfl, rfl, rfl, by omega, H0.out⟩
  case round =>
    clear H0 h0 h1 h6
    obtain ⟨n, z, rfl, rfl, hz, hgk, hT⟩ := hrel
    have HZ := hide hz
    have hz0 : 0 ≤ z := by omega
    have hz1 : z.toNat = n := by omega
    clear hz
    by_cases hn : n < N
    · have h0 := (hT.cell (p := ⟨cb, 0, none⟩) hcb hlc).trans HC.out.1
      have h6 := (hT.cell (p := ⟨cb, 6, none⟩) hcb hlc).trans HC.out.2.2
      have hi := (hT.cell (p := ⟨ib, n, none⟩) HH.out.1.lt hli).trans (HH.out.1.cell hn)
      have hqn : z < (N : Int) := by have := HZ.out; omega
      have hidx := idx_le inn n
      have hix : idx inn (n + 1) = idx inn n + (if inn n = true then 1 else 0) := rfl
      cases hin : inn n with
      | false =>
        rw [hin] at hi hix
        have HX := hide hix
        have HT := hide hT
        clear hT hix
        go_wp2
        go_roundg (N - (n + 1))
        case measure => omega
        case rel => exact ⟨n + 1, z + 1, by rw [HX.out]; rfl, congrArg (Value.int .i64) rfl, by have := HZ.out; omega, by omega, HT.out.congr (lostF_skip (by rw [hin]; rfl))⟩
      | true =>
        obtain ⟨hil, hfr⟩ := HH.out.2.1 n hn hin
        obtain ⟨rfl, hrb, hrl, hRp⟩ := HH.out.2.2 (by omega)
        obtain ⟨e0, e1⟩ := hRp _ hil
        rw [hfr] at e0 e1
        have c0 := (hT.cell (p := ⟨rb, idx inn n * 2, none⟩) hrb hrl).trans e0
        have c1 := (hT.cell (p := ⟨rb, idx inn n * 2 + 1, none⟩) hrb hrl).trans e1
        clear e0 e1
        have b0 := hT.box.c0
        have b1 := hT.box.c1
        rw [hin] at hi hix
        rw [if_pos rfl] at hix
        have hql : (idx inn n : Int) < (L : Int) := by omega
        obtain ⟨bv, hbv⟩ : ∃ bv, (decide (n ≠ 0) && decide (rep n ≠ won)) = bv := ⟨_, rfl⟩
        have hlr := hT.row.cell hn
        have hlf := hT.row.frozen n
        have HBV := hide (And.intro hbv (And.intro hin hix))
        have HT := hide hT
        clear hT hix hRp hbv hin hfr
        obtain ⟨rn, hrn⟩ : ∃ rn, rep n = rn := ⟨_, rfl⟩
        rw [hrn] at c0 c1
        have HRN := hide hrn
        clear hrn
        go_upto_region 6 with fail
        go_cut [34] (fun x wx => x = .bool bv ∧ CT w wx lb N won (lostF inn rep won lost n))
        case first =>
          by_cases hn0 : n = 0
          · have hzb : bv = false := by rw [← HBV.out.1, hn0]; rfl
            have hzz : z = 0 := by have := HZ.out; omega
            subst hzb
            have hne : (z != 0) = false := by rw [hzz]; rfl
            clear hzz hn0
            go_quiet (fail)
            go_wp2
            go_meet
            case rel => exact ⟨rfl, HT.out.drewN _⟩
          · have hne : (z != 0) = true := by have := HZ.out; simp; omega
            rcases rp_cases rn won with he | he
            · have hzb : bv = false := by rw [← HBV.out.1, HRN.out, he]; simp
              subst hzb
              subst he
              go_quiet (fail)
              go_wp2
              go_meet
              case rel => exact ⟨rfl, HT.out.drewN _⟩
            · have hzb : bv = true := by rw [← HBV.out.1, HRN.out, decide_eq_true hn0, decide_eq_true (rp_ne he)]; rfl
              subst hzb
              rcases he with he | ⟨he, he'⟩
              · go_quiet (fail)
                go_wp2
                go_meet
                case rel => exact ⟨rfl, HT.out.drewN _⟩
              · go_quiet (fail)
                go_wp2
                go_meet
                case rel => exact ⟨rfl, HT.out.drewN _⟩
        case rest =>
          obtain ⟨rfl, hT⟩ := hcut
          have h6 := (hT.cell (p := ⟨cb, 6, none⟩) hcb hlc).trans HC.out.2.2
          have hlr := hT.row.cell hn
          have hlf := hT.row.frozen n
          have HT2 := hide hT
          clear hT
          cases bv with
          | false =>
            go_wp2
            go_roundg (N - (n + 1))
            case measure => omega
            case rel => exact ⟨n + 1, z + 1, by rw [HBV.out.2.2]; exact congrArg (Value.int .i64) (by simp), congrArg (Value.int .i64) rfl, by have := HZ.out; omega, by omega, HT2.out.congr (lostF_skip (by rw [HBV.out.2.1, Bool.true_and]; exact HBV.out.1))⟩
          | true =>
            go_wp2
            go_roundg (N - (n + 1))
            case measure => omega
            case rel => exact ⟨n + 1, z + 1, by rw [HBV.out.2.2]; exact congrArg (Value.int .i64) (by simp), congrArg (Value.int .i64) rfl, by have := HZ.out; omega, by omega, HT2.out.set n (lostF_hit (by rw [HBV.out.2.1, Bool.true_and]; exact HBV.out.1))⟩
    · obtain rfl : n = N := by omega
      have HT := hide hT
      clear hT
      go_wp2
      go_returns
      exact ⟨rfl, HT.out.grown, HT.out.row⟩
end Go.Proofs.Ybulkbbgw.Vo
