/-
  trigrove.(*segment).entries (13), .entry (14) BY THEIR CONTRACTS, over a directory of 20 bytes an entry.
-/
import Derived.Test.YbulkbbhyMgLe
import Derived.Deep.RegionHeld3
namespace Go.Proofs.Ybulkbbhy.Mg
open Go.RowKit

/-- (*segment).entries: the directory's length by 20. -/
theorem entries_any (sb so n : Nat) (d : Option Addr) (c : Nat) (w : World) (hn : n ≤ 100000) (h9 : w.cell? ⟨sb, so + 9, none⟩ = some (.slice d (n * 20) c)) :
    Calls Yba.prog 13 #[.pointer (some ⟨sb, so, none⟩)] w fun e w' => e = .returned (.int .i64 n) ∧ w = w' := by
  have hq : ((n * 20 : Nat) : Int) / 20 = (n : Int) := by omega
  go_enter Yba.func13, Yba.ntmps13
  go_wp2
  go_ret
  exact ⟨by simp, rfl⟩


theorem BytesAt.of_cells {w w' : World} {b o : Nat} {l : List UInt8} (h : BytesAt w b o l) (hc : ∀ p : Addr, p.block = b → w'.cell? p = w.cell? p) : BytesAt w' b o l :=
  fun j u hj => (hc ⟨b, o + j, none⟩ rfl).trans (h j u hj)

theorem alloc_drewN (w : World) (n : Nat) (o : Obj) : (w.drewN n).alloc o = (w.alloc o).drewN n := rfl
theorem setCell_drewN (w : World) (n : Nat) (a : Addr) (v : Value) : (w.drewN n).setCell a v = (w.setCell a v).drewN n := rfl
attribute [local go_sem] alloc_drewN setCell_drewN
theorem below_draws {B : Nat} {w W : World} (n : Nat) (h : Below B w W) : Below B w (W.drewN n) := ⟨h.os, h.tape, h.output, h.size, h.block⟩
theorem seg_of {w W : World} {sb so : Nat} (h7 : w.cell? ⟨sb, so + 7, none⟩ = some (.int .u64 0)) (h8 : w.cell? ⟨sb, so + 8, none⟩ = some (.int .u64 0)) (hsb : sb < w.heap.size) (hb : Below w.heap.size w W) :
    W.cell? ⟨sb, so + 7, none⟩ = some (.int .u64 0) ∧ W.cell? ⟨sb, so + 8, none⟩ = some (.int .u64 0) ∧ Below w.heap.size w W :=
  ⟨(hb.cell (p := ⟨sb, so + 7, none⟩) hsb).trans h7, (hb.cell (p := ⟨sb, so + 8, none⟩) hsb).trans h8, hb⟩

set_option maxRecDepth 20000 in
set_option maxHeartbeats 1000000 in
/-- (*segment).entry at the last entry. -/
theorem entry_last (sb so db n i key cnt : Nat) (w : World) (hi : i + 1 = n) (hn : n ≤ 100000) (hkey : key < 256 ^ 8) (hcnt : cnt < 256 ^ 4)
    (h7 : w.cell? ⟨sb, so + 7, none⟩ = some (.int .u64 0)) (h8 : w.cell? ⟨sb, so + 8, none⟩ = some (.int .u64 0)) (h9 : w.cell? ⟨sb, so + 9, none⟩ = some (.slice (some ⟨db, 0, none⟩) (n * 20) (n * 20)))
    (hK : BytesAt w db (i * 20) (Lib.leBytes 8 key)) (hS : BytesAt w db (i * 20 + 8) (Lib.leBytes 8 i)) (hC : BytesAt w db (i * 20 + 16) (Lib.leBytes 4 cnt)) (hsb : sb < w.heap.size) (hdb : db < w.heap.size) :
    Calls Yba.prog 14 #[.pointer (some ⟨sb, so, none⟩), .int .i64 i] w fun e w' => e = .returned (.agg #[.int .u64 key, .int .u64 i, .int .u64 0, .int .u32 cnt]) ∧ Below w.heap.size w w' := by
  have hcap : ¬ n * 20 = i * 20 := by omega
  obtain ⟨L, hL, hL2⟩ : ∃ L, n * 20 - i * 20 = L ∧ L = 20 := ⟨_, rfl, by omega⟩
  have b8 : (8 : Int) ≤ (L : Int) := by omega
  have b16 : (16 : Int) ≤ (L : Int) := by omega
  have hcap2 : ¬ L = 8 := by omega
  have hcap3 : ¬ L = 16 := by omega
  have hL3 : 20 ≤ L := by omega
  clear hL2
  have k1 : ∀ W, (W.cell? ⟨sb, so + 7, none⟩ = some (.int .u64 0) ∧ W.cell? ⟨sb, so + 8, none⟩ = some (.int .u64 0) ∧ Below w.heap.size w W) → ∀ N C, 8 ≤ N → Calls Yba.prog 16 #[.agg #[], .slice (some ⟨db, i * 20, none⟩) N C] W fun e w' => e = .returned (.int .u64 key) ∧ ∃ m, w' = (W.alloc (.cells #[] 32)).drewN m :=
    fun W hb N C hN => u64_any db (i * 20) N C key W hkey hN (hK.below hb.2.2 hdb)
  have k2 : ∀ W, (W.cell? ⟨sb, so + 7, none⟩ = some (.int .u64 0) ∧ W.cell? ⟨sb, so + 8, none⟩ = some (.int .u64 0) ∧ Below w.heap.size w W) → ∀ N C, 8 ≤ N → Calls Yba.prog 16 #[.agg #[], .slice (some ⟨db, i * 20 + 8, none⟩) N C] W fun e w' => e = .returned (.int .u64 i) ∧ ∃ m, w' = (W.alloc (.cells #[] 32)).drewN m :=
    fun W hb N C hN => u64_any db (i * 20 + 8) N C i W (by omega) hN (hS.below hb.2.2 hdb)
  have k3 : ∀ W, (W.cell? ⟨sb, so + 7, none⟩ = some (.int .u64 0) ∧ W.cell? ⟨sb, so + 8, none⟩ = some (.int .u64 0) ∧ Below w.heap.size w W) → ∀ N C, 4 ≤ N → Calls Yba.prog 17 #[.agg #[], .slice (some ⟨db, i * 20 + 16, none⟩) N C] W fun e w' => e = .returned (.int .u32 cnt) ∧ ∃ m, w' = (W.alloc (.cells #[] 32)).drewN m :=
    fun W hb N C hN => u32_any db (i * 20 + 16) N C cnt W hcnt hN (hC.below hb.2.2 hdb)
  have K1 := hide k1
  have K2 := hide k2
  have K3 := hide k3
  clear k1 k2 k3 hK hS hC
  go_enter Yba.func14, Yba.ntmps14
  go_wp2
  go_region_held3 (fun W => W.cell? ⟨sb, so + 7, none⟩ = some (.int .u64 0) ∧ W.cell? ⟨sb, so + 8, none⟩ = some (.int .u64 0) ∧ Below w.heap.size w W)
    (exact seg_of h7 h8 hsb (by repeat (first | (with_reducible exact Below.refl _ w) | (with_reducible refine below_draws _ ?_) | (with_reducible refine Below.drew ?_) | (with_reducible refine Below.alloc ?_ ?_ _; rotate_left; (simp <;> omega)) | (with_reducible refine Below.setCell ?_ ?_ _; rotate_left; (simp <;> omega)))))
    (first | (go_at_call 16; go_fit (K1.out _ (by assumption) _ _ (by omega)); rintro e w' ⟨rfl, m, rfl⟩) | (go_at_call 16; go_fit (K2.out _ (by assumption) _ _ (by omega)); rintro e w' ⟨rfl, m, rfl⟩) | (go_at_call 17; go_fit (K3.out _ (by assumption) _ _ (by omega)); rintro e w' ⟨rfl, m, rfl⟩))
  all_goals go_wp2_with fail
  all_goals refine (entries_any sb so n (some ⟨db, 0, none⟩) (n * 20) _ hn ((Below.cell (B := w.heap.size) (w := w) (p := ⟨sb, so + 9, none⟩) (by repeat (first | (with_reducible exact Below.refl _ w) | (with_reducible refine below_draws _ ?_) | (with_reducible refine Below.drew ?_) | (with_reducible refine Below.alloc ?_ ?_ _; rotate_left; (simp <;> omega)) | (with_reducible refine Below.setCell ?_ ?_ _; rotate_left; (simp <;> omega)))) hsb).trans h9)).mono ?_
  all_goals rintro e w' ⟨rfl, rfl⟩
  all_goals go_wp2
  all_goals refine bodyPost_ret (v := .agg #[.int .u64 key, .int .u64 i, .int .u64 0, .int .u32 cnt]) (by simp [results, Yba.results14, go_sem]) rfl ⟨rfl, (by repeat (first | (with_reducible exact Below.refl _ w) | (with_reducible refine below_draws _ ?_) | (with_reducible refine Below.drew ?_) | (with_reducible refine Below.alloc ?_ ?_ _; rotate_left; (simp <;> omega)) | (with_reducible refine Below.setCell ?_ ?_ _; rotate_left; (simp <;> omega))))⟩
set_option maxRecDepth 20000 in
set_option maxHeartbeats 1000000 in
/-- (*segment).entry at an entry that is not the last. -/
theorem entry_mid (sb so db n i key cnt : Nat) (w : World) (hi : i + 1 < n) (hn : n ≤ 100000) (hkey : key < 256 ^ 8) (hcnt : cnt < 256 ^ 4)
    (h7 : w.cell? ⟨sb, so + 7, none⟩ = some (.int .u64 0)) (h8 : w.cell? ⟨sb, so + 8, none⟩ = some (.int .u64 0)) (h9 : w.cell? ⟨sb, so + 9, none⟩ = some (.slice (some ⟨db, 0, none⟩) (n * 20) (n * 20)))
    (hK : BytesAt w db (i * 20) (Lib.leBytes 8 key)) (hS : BytesAt w db (i * 20 + 8) (Lib.leBytes 8 i)) (hC : BytesAt w db (i * 20 + 16) (Lib.leBytes 4 cnt)) (hE : BytesAt w db (i * 20 + 28) (Lib.leBytes 8 (i + 1))) (hsb : sb < w.heap.size) (hdb : db < w.heap.size) :
    Calls Yba.prog 14 #[.pointer (some ⟨sb, so, none⟩), .int .i64 i] w fun e w' => e = .returned (.agg #[.int .u64 key, .int .u64 i, .int .u64 ((i + 1 : Nat) : Int), .int .u32 cnt]) ∧ Below w.heap.size w w' := by
  have hcap : ¬ n * 20 = i * 20 := by omega
  obtain ⟨L, hL, hL2⟩ : ∃ L, n * 20 - i * 20 = L ∧ 40 ≤ L := ⟨_, rfl, by omega⟩
  have b28 : (28 : Int) ≤ (L : Int) := by omega
  have hcap4 : ¬ L = 28 := by omega
  have b8 : (8 : Int) ≤ (L : Int) := by omega
  have b16 : (16 : Int) ≤ (L : Int) := by omega
  have hcap2 : ¬ L = 8 := by omega
  have hcap3 : ¬ L = 16 := by omega
  have k1 : ∀ W, (W.cell? ⟨sb, so + 7, none⟩ = some (.int .u64 0) ∧ W.cell? ⟨sb, so + 8, none⟩ = some (.int .u64 0) ∧ Below w.heap.size w W) → ∀ N C, 8 ≤ N → Calls Yba.prog 16 #[.agg #[], .slice (some ⟨db, i * 20, none⟩) N C] W fun e w' => e = .returned (.int .u64 key) ∧ ∃ m, w' = (W.alloc (.cells #[] 32)).drewN m :=
    fun W hb N C hN => u64_any db (i * 20) N C key W hkey hN (hK.below hb.2.2 hdb)
  have k2 : ∀ W, (W.cell? ⟨sb, so + 7, none⟩ = some (.int .u64 0) ∧ W.cell? ⟨sb, so + 8, none⟩ = some (.int .u64 0) ∧ Below w.heap.size w W) → ∀ N C, 8 ≤ N → Calls Yba.prog 16 #[.agg #[], .slice (some ⟨db, i * 20 + 8, none⟩) N C] W fun e w' => e = .returned (.int .u64 i) ∧ ∃ m, w' = (W.alloc (.cells #[] 32)).drewN m :=
    fun W hb N C hN => u64_any db (i * 20 + 8) N C i W (by omega) hN (hS.below hb.2.2 hdb)
  have k3 : ∀ W, (W.cell? ⟨sb, so + 7, none⟩ = some (.int .u64 0) ∧ W.cell? ⟨sb, so + 8, none⟩ = some (.int .u64 0) ∧ Below w.heap.size w W) → ∀ N C, 4 ≤ N → Calls Yba.prog 17 #[.agg #[], .slice (some ⟨db, i * 20 + 16, none⟩) N C] W fun e w' => e = .returned (.int .u32 cnt) ∧ ∃ m, w' = (W.alloc (.cells #[] 32)).drewN m :=
    fun W hb N C hN => u32_any db (i * 20 + 16) N C cnt W hcnt hN (hC.below hb.2.2 hdb)
  have k4 : ∀ W, Below w.heap.size w W → ∀ N C, 8 ≤ N → Calls Yba.prog 16 #[.agg #[], .slice (some ⟨db, i * 20 + 28, none⟩) N C] W fun e w' => e = .returned (.int .u64 ((i + 1 : Nat) : Int)) ∧ ∃ m, w' = (W.alloc (.cells #[] 32)).drewN m :=
    fun W hb N C hN => u64_any db (i * 20 + 28) N C (i + 1) W (by omega) hN (hE.below hb hdb)
  have K4 := hide k4
  have K1 := hide k1
  have K2 := hide k2
  have K3 := hide k3
  clear k1 k2 k3 k4 hK hS hC hE
  go_enter Yba.func14, Yba.ntmps14
  go_wp2
  go_region_held3 (fun W => W.cell? ⟨sb, so + 7, none⟩ = some (.int .u64 0) ∧ W.cell? ⟨sb, so + 8, none⟩ = some (.int .u64 0) ∧ Below w.heap.size w W)
    (exact seg_of h7 h8 hsb (by repeat (first | (with_reducible exact Below.refl _ w) | (with_reducible refine below_draws _ ?_) | (with_reducible refine Below.drew ?_) | (with_reducible refine Below.alloc ?_ ?_ _; rotate_left; (simp <;> omega)) | (with_reducible refine Below.setCell ?_ ?_ _; rotate_left; (simp <;> omega)))))
    (first | (go_at_call 16; go_fit (K1.out _ (by assumption) _ _ (by omega)); rintro e w' ⟨rfl, m, rfl⟩) | (go_at_call 16; go_fit (K2.out _ (by assumption) _ _ (by omega)); rintro e w' ⟨rfl, m, rfl⟩) | (go_at_call 17; go_fit (K3.out _ (by assumption) _ _ (by omega)); rintro e w' ⟨rfl, m, rfl⟩))
  all_goals go_wp2_with fail
  all_goals refine (entries_any sb so n (some ⟨db, 0, none⟩) (n * 20) _ hn ((Below.cell (B := w.heap.size) (w := w) (p := ⟨sb, so + 9, none⟩) (by repeat (first | (with_reducible exact Below.refl _ w) | (with_reducible refine below_draws _ ?_) | (with_reducible refine Below.drew ?_) | (with_reducible refine Below.alloc ?_ ?_ _; rotate_left; (simp <;> omega)) | (with_reducible refine Below.setCell ?_ ?_ _; rotate_left; (simp <;> omega)))) hsb).trans h9)).mono ?_
  all_goals rintro e w' ⟨rfl, rfl⟩
  all_goals go_wp2_with fail
  all_goals go_region_with (go_at_call 16; refine (K4.out _ ?_ _ _ ?_).mono ?_; (exact (by repeat (first | (with_reducible exact Below.refl _ w) | (with_reducible refine below_draws _ ?_) | (with_reducible refine Below.drew ?_) | (with_reducible refine Below.alloc ?_ ?_ _; rotate_left; (simp <;> omega)) | (with_reducible refine Below.setCell ?_ ?_ _; rotate_left; (simp <;> omega))))); omega; rintro e w' ⟨rfl, m, rfl⟩)
  all_goals go_wp2
  all_goals refine bodyPost_ret (v := .agg #[.int .u64 key, .int .u64 i, .int .u64 ((i + 1 : Nat) : Int), .int .u32 cnt]) (by simp [results, Yba.results14, go_sem]) rfl ⟨rfl, (by repeat (first | (with_reducible exact Below.refl _ w) | (with_reducible refine below_draws _ ?_) | (with_reducible refine Below.drew ?_) | (with_reducible refine Below.alloc ?_ ?_ _; rotate_left; (simp <;> omega)) | (with_reducible refine Below.setCell ?_ ?_ _; rotate_left; (simp <;> omega))))⟩
end Go.Proofs.Ybulkbbhy.Mg
