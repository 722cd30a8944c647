/-
  binary.LittleEndian.Uint64 (16), Uint32 (17) BY THEIR CONTRACTS, the world written out.
-/
import Derived.Test.YbulkbbhyRows
import Derived.Test.YbulkbbhyShelf
import Derived.WalkKit
import Derived.WalkSpells
import Derived.OpenShut
import Derived.Deep.QuietTactic
import Derived.BigQuiet
import Derived.BigRegion
import Derived.Deep.RegionWith
import Derived.Deep.RegionHeld3
import Derived.Deep.DeepFit
import Derived.Lib.Endian
import Derived.Lib.EndianBits
import Derived.Lib.Walk
namespace Go.Proofs.Ybulkbbhy.Mg
open Go.RowKit

theorem hide {p : Prop} (h : p) : Hid p := h
theorem unhide {p : Prop} (h : Hid p) : p := h.out

/-- The bytes l lie at o in block b. -/
def BytesAt (w : World) (b o : Nat) (l : List UInt8) : Prop := ∀ j u, l[j]? = some u → w.cell? ⟨b, o + j, none⟩ = some (.int .u8 u.toNat)

theorem BytesAt.below {w w' : World} {B b o : Nat} {l : List UInt8} (h : BytesAt w b o l) (hb : Below B w w') (hlt : b < B) : BytesAt w' b o l :=
  fun j u hj => (hb.cell (p := ⟨b, o + j, none⟩) hlt).trans (h j u hj)

set_option maxHeartbeats 8000000 in
set_option maxRecDepth 100000 in
/-- binary.LittleEndian.Uint64 (after the shelf's LEUint64), the world written out. -/
theorem u64_bytes (g o n c : Nat) (b0 b1 b2 b3 b4 b5 b6 b7 : UInt8) (w : World) (hn : 8 ≤ n) (c0 : w.cell? ⟨g, o, none⟩ = some (.int .u8 b0.toNat)) (c1 : w.cell? ⟨g, o + 1, none⟩ = some (.int .u8 b1.toNat)) (c2 : w.cell? ⟨g, o + 2, none⟩ = some (.int .u8 b2.toNat)) (c3 : w.cell? ⟨g, o + 3, none⟩ = some (.int .u8 b3.toNat)) (c4 : w.cell? ⟨g, o + 4, none⟩ = some (.int .u8 b4.toNat)) (c5 : w.cell? ⟨g, o + 5, none⟩ = some (.int .u8 b5.toNat)) (c6 : w.cell? ⟨g, o + 6, none⟩ = some (.int .u8 b6.toNat)) (c7 : w.cell? ⟨g, o + 7, none⟩ = some (.int .u8 b7.toNat)) :
    Calls Yba.prog 16 #[.agg #[], .slice (some ⟨g, o, none⟩) n c] w fun e w' => e = .returned (.int .u64 (Lib.leNat [b0, b1, b2, b3, b4, b5, b6, b7])) ∧ ∃ m, w' = (w.alloc (.cells #[] 32)).drewN m := by
  have d0 := cell?_alloc_old (.cells #[] 32) c0
  have h0 : b0.toNat < 256 := b0.toNat_lt
  have d1 := cell?_alloc_old (.cells #[] 32) c1
  have h1 : b1.toNat < 256 := b1.toNat_lt
  have d2 := cell?_alloc_old (.cells #[] 32) c2
  have h2 : b2.toNat < 256 := b2.toNat_lt
  have d3 := cell?_alloc_old (.cells #[] 32) c3
  have h3 : b3.toNat < 256 := b3.toNat_lt
  have d4 := cell?_alloc_old (.cells #[] 32) c4
  have h4 : b4.toNat < 256 := b4.toNat_lt
  have d5 := cell?_alloc_old (.cells #[] 32) c5
  have h5 : b5.toNat < 256 := b5.toNat_lt
  have d6 := cell?_alloc_old (.cells #[] 32) c6
  have h6 : b6.toNat < 256 := b6.toNat_lt
  have d7 := cell?_alloc_old (.cells #[] 32) c7
  have h7 : b7.toNat < 256 := b7.toNat_lt
  have q0 : 0 < n := by omega
  have q1 : (1 : Int) < (n : Int) := by omega
  have q2 : (2 : Int) < (n : Int) := by omega
  have q3 : (3 : Int) < (n : Int) := by omega
  have q4 : (4 : Int) < (n : Int) := by omega
  have q5 : (5 : Int) < (n : Int) := by omega
  have q6 : (6 : Int) < (n : Int) := by omega
  have q7 : (7 : Int) < (n : Int) := by omega
  have hv : ((Lib.leNat [b0, b1, b2, b3, b4, b5, b6, b7] : Nat) : Int) = (b0.toNat : Int) + (b1.toNat : Int) * 256 + (b2.toNat : Int) * 65536 + (b3.toNat : Int) * 16777216 + (b4.toNat : Int) * 4294967296 + (b5.toNat : Int) * 1099511627776 + (b6.toNat : Int) * 281474976710656 + (b7.toNat : Int) * 72057594037927936 := by
    simp only [Lib.leNat]
    push_cast
    omega
  go_enter Yba.func16, Yba.ntmps16
  go_wp2
  go_quiet (fail)
  go_wp2
  go_ret
  refine ⟨?_, _, rfl⟩
  simp (disch := omega) only [u64_or8, u64_or16, u64_or24, u64_or32, u64_or40, u64_or48, u64_or56]
  rw [hv]
  rfl

set_option maxHeartbeats 8000000 in
set_option maxRecDepth 100000 in
/-- binary.LittleEndian.Uint32, the world written out. -/
theorem u32_bytes (g o n c : Nat) (b0 b1 b2 b3 : UInt8) (w : World) (hn : 4 ≤ n) (c0 : w.cell? ⟨g, o, none⟩ = some (.int .u8 b0.toNat)) (c1 : w.cell? ⟨g, o + 1, none⟩ = some (.int .u8 b1.toNat)) (c2 : w.cell? ⟨g, o + 2, none⟩ = some (.int .u8 b2.toNat)) (c3 : w.cell? ⟨g, o + 3, none⟩ = some (.int .u8 b3.toNat)) :
    Calls Yba.prog 17 #[.agg #[], .slice (some ⟨g, o, none⟩) n c] w fun e w' => e = .returned (.int .u32 (Lib.leNat [b0, b1, b2, b3])) ∧ ∃ m, w' = (w.alloc (.cells #[] 32)).drewN m := by
  have d0 := cell?_alloc_old (.cells #[] 32) c0
  have h0 : b0.toNat < 256 := b0.toNat_lt
  have d1 := cell?_alloc_old (.cells #[] 32) c1
  have h1 : b1.toNat < 256 := b1.toNat_lt
  have d2 := cell?_alloc_old (.cells #[] 32) c2
  have h2 : b2.toNat < 256 := b2.toNat_lt
  have d3 := cell?_alloc_old (.cells #[] 32) c3
  have h3 : b3.toNat < 256 := b3.toNat_lt
  have q0 : 0 < n := by omega
  have q1 : (1 : Int) < (n : Int) := by omega
  have q2 : (2 : Int) < (n : Int) := by omega
  have q3 : (3 : Int) < (n : Int) := by omega
  have hv : ((Lib.leNat [b0, b1, b2, b3] : Nat) : Int) = (b0.toNat : Int) + (b1.toNat : Int) * 256 + (b2.toNat : Int) * 65536 + (b3.toNat : Int) * 16777216 := by
    simp only [Lib.leNat]
    push_cast
    omega
  go_enter Yba.func17, Yba.ntmps17
  go_wp2
  go_quiet (fail)
  go_wp2
  go_ret
  refine ⟨?_, _, rfl⟩
  simp (disch := omega) only [u32_or8, u32_or16, u32_or24]
  rw [hv]
  rfl

theorem u64_any (g o n c v : Nat) (w : World) (hv : v < 256 ^ 8) (hn : 8 ≤ n) (h : BytesAt w g o (Lib.leBytes 8 v)) :
    Calls Yba.prog 16 #[.agg #[], .slice (some ⟨g, o, none⟩) n c] w fun e w' => e = .returned (.int .u64 v) ∧ ∃ m, w' = (w.alloc (.cells #[] 32)).drewN m := by
  have hl := Lib.leBytes_length 8 v
  have hnat := Lib.leNat_leBytes 8 v hv
  match hx : Lib.leBytes 8 v, hl with
  | [b0, b1, b2, b3, b4, b5, b6, b7], _ =>
    rw [hx] at h hnat
    have := u64_bytes g o n c b0 b1 b2 b3 b4 b5 b6 b7 w hn (h 0 _ rfl) (h 1 _ rfl) (h 2 _ rfl) (h 3 _ rfl) (h 4 _ rfl) (h 5 _ rfl) (h 6 _ rfl) (h 7 _ rfl)
    rw [hnat] at this
    exact this

theorem u32_any (g o n c v : Nat) (w : World) (hv : v < 256 ^ 4) (hn : 4 ≤ n) (h : BytesAt w g o (Lib.leBytes 4 v)) :
    Calls Yba.prog 17 #[.agg #[], .slice (some ⟨g, o, none⟩) n c] w fun e w' => e = .returned (.int .u32 v) ∧ ∃ m, w' = (w.alloc (.cells #[] 32)).drewN m := by
  have hl := Lib.leBytes_length 4 v
  have hnat := Lib.leNat_leBytes 4 v hv
  match hx : Lib.leBytes 4 v, hl with
  | [b0, b1, b2, b3], _ =>
    rw [hx] at h hnat
    have := u32_bytes g o n c b0 b1 b2 b3 w hn (h 0 _ rfl) (h 1 _ rfl) (h 2 _ rfl) (h 3 _ rfl)
    rw [hnat] at this
    exact this

end Go.Proofs.Ybulkbbhy.Mg
