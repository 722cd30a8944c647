/-
  DERIVED: THE SHELF's CONTRACTS AT THIS DUMP, IN PLAIN WORDS (tools/lay-plain.mjs out of 'YbaShelf.lean', which tools/lay-shelf.mjs wrote): THE SAME DECLARATIONS UNDER THE SAME NAMES: 'import', 'namespace', 'open', 'def', 'theorem' AND NOTHING ELSE: no command of the shelf's: FOR A HAND-IN. Each laying: the table of numbers ('.._ren') and one theorem, a field a fact of the dump's own or the kernel's comparison; each contract: ONE APPLICATION.
-/
import Derived.Ground.MnProg
import Derived.Shelf.Bin.LEUint32
import Derived.Shelf.Bin.LEPutUint32
import Derived.Shelf.Bin.LEUint64
import Derived.Shelf.Bin.LEPutUint64
import Derived.Test.YbulkbbhyProg
namespace Go.Proofs
open Go.Shelf
def Yba.laysBin30_ren : Go.Shelf.Ren := ⟨fun | 30 => 17 | n => n, fun | 25 => 32 | 22 => 26 | 29 => 28 | 0 => 0 | 5 => 5 | 45 => 47 | n => n, fun | n => n⟩
theorem Yba.laysBin30 : Go.Proofs.LaysBin.n30 Yba.prog Yba.laysBin30_ren := {
  mixed := by kernel_rfl
  f30 := Yba.func17.trans (congrArg some (by kernel_rfl))
  t0 := Yba.underlying0
  a0 := Yba.isAgg0
  z0 := Yba.sizeOf0
  v0 := Yba.zeroValue0
  i0 := by kernel_rfl
  t5 := Yba.underlying5
  a5 := Yba.isAgg5
  z5 := Yba.sizeOf5
  v5 := Yba.zeroValue5
  i5 := by kernel_rfl
  t22 := Yba.underlying26
  a22 := Yba.isAgg26
  z22 := Yba.sizeOf26
  v22 := Yba.zeroValue26
  i22 := by kernel_rfl
  t25 := Yba.underlying32
  a25 := Yba.isAgg32
  z25 := Yba.sizeOf32
  v25 := Yba.zeroValue32
  i25 := by kernel_rfl
  t29 := Yba.underlying28
  a29 := Yba.isAgg28
  z29 := Yba.sizeOf28
  v29 := Yba.zeroValue28
  i29 := by kernel_rfl
  t45 := Yba.underlying47
  a45 := Yba.isAgg47
  z45 := Yba.sizeOf47
  v45 := Yba.zeroValue47
  i45 := by kernel_rfl }
open Go.RowKit in
/-- binary.LittleEndian.Uint32: "Uint32 returns the uint32 representation of b[0:4].": THE NUMBER THAT THE FIRST 4 BYTES SPELL, the least byte first ('Lib.leNat'). Of what was there nothing has turned (the receiver, an empty struct, is laid in a new block without cells; the statement's order is drawn). (LAID: no walk: one application.) -/
theorem Yba.binary_LE_Uint32 (g o n c : Nat) (b0 b1 b2 b3 : UInt8) (w : World) (hn : 4 ≤ n) (c0 : w.cell? ⟨g, o, none⟩ = some (.int .u8 b0.toNat)) (c1 : w.cell? ⟨g, o + 1, none⟩ = some (.int .u8 b1.toNat)) (c2 : w.cell? ⟨g, o + 2, none⟩ = some (.int .u8 b2.toNat)) (c3 : w.cell? ⟨g, o + 3, none⟩ = some (.int .u8 b3.toNat)) :
    Calls Yba.prog 17 #[.agg #[], .slice (some ⟨g, o, none⟩) n c] w fun e w' => e = .returned (.int .u32 (Lib.leNat [b0, b1, b2, b3])) ∧ Below w.heap.size w w' := Any.binary_LE_Uint32 Yba.laysBin30 g o n c b0 b1 b2 b3 w hn c0 c1 c2 c3
def Yba.laysBin31_ren : Go.Shelf.Ren := ⟨fun | 31 => 7 | n => n, fun | 25 => 32 | 22 => 26 | 29 => 28 | 0 => 0 | 5 => 5 | 45 => 47 | n => n, fun | n => n⟩
theorem Yba.laysBin31 : Go.Proofs.LaysBin.n31 Yba.prog Yba.laysBin31_ren := {
  mixed := by kernel_rfl
  f31 := Yba.func7.trans (congrArg some (by kernel_rfl))
  t0 := Yba.underlying0
  a0 := Yba.isAgg0
  z0 := Yba.sizeOf0
  v0 := Yba.zeroValue0
  i0 := by kernel_rfl
  t5 := Yba.underlying5
  a5 := Yba.isAgg5
  z5 := Yba.sizeOf5
  v5 := Yba.zeroValue5
  i5 := by kernel_rfl
  t22 := Yba.underlying26
  a22 := Yba.isAgg26
  z22 := Yba.sizeOf26
  v22 := Yba.zeroValue26
  i22 := by kernel_rfl
  t25 := Yba.underlying32
  a25 := Yba.isAgg32
  z25 := Yba.sizeOf32
  v25 := Yba.zeroValue32
  i25 := by kernel_rfl
  t29 := Yba.underlying28
  a29 := Yba.isAgg28
  z29 := Yba.sizeOf28
  v29 := Yba.zeroValue28
  i29 := by kernel_rfl
  t45 := Yba.underlying47
  a45 := Yba.isAgg47
  z45 := Yba.sizeOf47
  v45 := Yba.zeroValue47
  i45 := by kernel_rfl }
open Go.RowKit in
/-- binary.LittleEndian.PutUint32: "PutUint32 stores v into b[0:4].": v's 4 BYTES, the least first ('Lib.leBytes 4 v'), ARE LAID IN THE SLICE's FIRST 4 CELLS ('World.setCells'); nothing else turns (the receiver, an empty struct, is laid in a new block without cells). (LAID: no walk: one application.) -/
theorem Yba.binary_LE_PutUint32 (g o n c v : Nat) (hv : v < 4294967296) (x0 x1 x2 x3 : Value) (w : World) (hn : 4 ≤ n) (c0 : w.cell? ⟨g, o, none⟩ = some x0) (c1 : w.cell? ⟨g, o + 1, none⟩ = some x1) (c2 : w.cell? ⟨g, o + 2, none⟩ = some x2) (c3 : w.cell? ⟨g, o + 3, none⟩ = some x3) (f0 : w.frozen? ⟨g, o, none⟩ = false) (f1 : w.frozen? ⟨g, o + 1, none⟩ = false) (f2 : w.frozen? ⟨g, o + 2, none⟩ = false) (f3 : w.frozen? ⟨g, o + 3, none⟩ = false) :
    Calls Yba.prog 7 #[.agg #[], .slice (some ⟨g, o, none⟩) n c, .int .u32 v] w fun e w' => e = .returned (.tuple #[]) ∧ w' = (w.alloc (.cells #[] 32)).setCells g o (Lib.byteCells (Lib.leBytes 4 v)) := Any.binary_LE_PutUint32 Yba.laysBin31 g o n c v hv x0 x1 x2 x3 w hn c0 c1 c2 c3 f0 f1 f2 f3
def Yba.laysBin33_ren : Go.Shelf.Ren := ⟨fun | 33 => 16 | n => n, fun | 25 => 32 | 22 => 26 | 33 => 27 | 0 => 0 | 5 => 5 | 45 => 47 | n => n, fun | n => n⟩
theorem Yba.laysBin33 : Go.Proofs.LaysBin.n33 Yba.prog Yba.laysBin33_ren := {
  mixed := by kernel_rfl
  f33 := Yba.func16.trans (congrArg some (by kernel_rfl))
  t0 := Yba.underlying0
  a0 := Yba.isAgg0
  z0 := Yba.sizeOf0
  v0 := Yba.zeroValue0
  i0 := by kernel_rfl
  t5 := Yba.underlying5
  a5 := Yba.isAgg5
  z5 := Yba.sizeOf5
  v5 := Yba.zeroValue5
  i5 := by kernel_rfl
  t22 := Yba.underlying26
  a22 := Yba.isAgg26
  z22 := Yba.sizeOf26
  v22 := Yba.zeroValue26
  i22 := by kernel_rfl
  t25 := Yba.underlying32
  a25 := Yba.isAgg32
  z25 := Yba.sizeOf32
  v25 := Yba.zeroValue32
  i25 := by kernel_rfl
  t33 := Yba.underlying27
  a33 := Yba.isAgg27
  z33 := Yba.sizeOf27
  v33 := Yba.zeroValue27
  i33 := by kernel_rfl
  t45 := Yba.underlying47
  a45 := Yba.isAgg47
  z45 := Yba.sizeOf47
  v45 := Yba.zeroValue47
  i45 := by kernel_rfl }
open Go.RowKit in
/-- binary.LittleEndian.Uint64: "Uint64 returns the uint64 representation of b[0:8].": THE NUMBER THAT THE FIRST 8 BYTES SPELL, the least byte first ('Lib.leNat'). Of what was there nothing has turned (the receiver, an empty struct, is laid in a new block without cells; the statement's order is drawn). (LAID: no walk: one application.) -/
theorem Yba.binary_LE_Uint64 (g o n c : Nat) (b0 b1 b2 b3 b4 b5 b6 b7 : UInt8) (w : World) (hn : 8 ≤ n) (c0 : w.cell? ⟨g, o, none⟩ = some (.int .u8 b0.toNat)) (c1 : w.cell? ⟨g, o + 1, none⟩ = some (.int .u8 b1.toNat)) (c2 : w.cell? ⟨g, o + 2, none⟩ = some (.int .u8 b2.toNat)) (c3 : w.cell? ⟨g, o + 3, none⟩ = some (.int .u8 b3.toNat)) (c4 : w.cell? ⟨g, o + 4, none⟩ = some (.int .u8 b4.toNat)) (c5 : w.cell? ⟨g, o + 5, none⟩ = some (.int .u8 b5.toNat)) (c6 : w.cell? ⟨g, o + 6, none⟩ = some (.int .u8 b6.toNat)) (c7 : w.cell? ⟨g, o + 7, none⟩ = some (.int .u8 b7.toNat)) :
    Calls Yba.prog 16 #[.agg #[], .slice (some ⟨g, o, none⟩) n c] w fun e w' => e = .returned (.int .u64 (Lib.leNat [b0, b1, b2, b3, b4, b5, b6, b7])) ∧ Below w.heap.size w w' := Any.binary_LE_Uint64 Yba.laysBin33 g o n c b0 b1 b2 b3 b4 b5 b6 b7 w hn c0 c1 c2 c3 c4 c5 c6 c7
def Yba.laysBin34_ren : Go.Shelf.Ren := ⟨fun | 34 => 6 | n => n, fun | 25 => 32 | 22 => 26 | 33 => 27 | 0 => 0 | 5 => 5 | 45 => 47 | n => n, fun | n => n⟩
theorem Yba.laysBin34 : Go.Proofs.LaysBin.n34 Yba.prog Yba.laysBin34_ren := {
  mixed := by kernel_rfl
  f34 := Yba.func6.trans (congrArg some (by kernel_rfl))
  t0 := Yba.underlying0
  a0 := Yba.isAgg0
  z0 := Yba.sizeOf0
  v0 := Yba.zeroValue0
  i0 := by kernel_rfl
  t5 := Yba.underlying5
  a5 := Yba.isAgg5
  z5 := Yba.sizeOf5
  v5 := Yba.zeroValue5
  i5 := by kernel_rfl
  t22 := Yba.underlying26
  a22 := Yba.isAgg26
  z22 := Yba.sizeOf26
  v22 := Yba.zeroValue26
  i22 := by kernel_rfl
  t25 := Yba.underlying32
  a25 := Yba.isAgg32
  z25 := Yba.sizeOf32
  v25 := Yba.zeroValue32
  i25 := by kernel_rfl
  t33 := Yba.underlying27
  a33 := Yba.isAgg27
  z33 := Yba.sizeOf27
  v33 := Yba.zeroValue27
  i33 := by kernel_rfl
  t45 := Yba.underlying47
  a45 := Yba.isAgg47
  z45 := Yba.sizeOf47
  v45 := Yba.zeroValue47
  i45 := by kernel_rfl }
open Go.RowKit in
/-- binary.LittleEndian.PutUint64: "PutUint64 stores v into b[0:8].": v's 8 BYTES, the least first ('Lib.leBytes 8 v'), ARE LAID IN THE SLICE's FIRST 8 CELLS ('World.setCells'); nothing else turns (the receiver, an empty struct, is laid in a new block without cells). (LAID: no walk: one application.) -/
theorem Yba.binary_LE_PutUint64 (g o n c v : Nat) (hv : v < 18446744073709551616) (x0 x1 x2 x3 x4 x5 x6 x7 : Value) (w : World) (hn : 8 ≤ n) (c0 : w.cell? ⟨g, o, none⟩ = some x0) (c1 : w.cell? ⟨g, o + 1, none⟩ = some x1) (c2 : w.cell? ⟨g, o + 2, none⟩ = some x2) (c3 : w.cell? ⟨g, o + 3, none⟩ = some x3) (c4 : w.cell? ⟨g, o + 4, none⟩ = some x4) (c5 : w.cell? ⟨g, o + 5, none⟩ = some x5) (c6 : w.cell? ⟨g, o + 6, none⟩ = some x6) (c7 : w.cell? ⟨g, o + 7, none⟩ = some x7) (f0 : w.frozen? ⟨g, o, none⟩ = false) (f1 : w.frozen? ⟨g, o + 1, none⟩ = false) (f2 : w.frozen? ⟨g, o + 2, none⟩ = false) (f3 : w.frozen? ⟨g, o + 3, none⟩ = false) (f4 : w.frozen? ⟨g, o + 4, none⟩ = false) (f5 : w.frozen? ⟨g, o + 5, none⟩ = false) (f6 : w.frozen? ⟨g, o + 6, none⟩ = false) (f7 : w.frozen? ⟨g, o + 7, none⟩ = false) :
    Calls Yba.prog 6 #[.agg #[], .slice (some ⟨g, o, none⟩) n c, .int .u64 v] w fun e w' => e = .returned (.tuple #[]) ∧ w' = (w.alloc (.cells #[] 32)).setCells g o (Lib.byteCells (Lib.leBytes 8 v)) := Any.binary_LE_PutUint64 Yba.laysBin34 g o n c v hv x0 x1 x2 x3 x4 x5 x6 x7 w hn c0 c1 c2 c3 c4 c5 c6 c7 f0 f1 f2 f3 f4 f5 f6 f7
end Go.Proofs
