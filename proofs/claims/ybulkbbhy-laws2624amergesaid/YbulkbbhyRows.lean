/-
  No cell of these rows narrows 'for every input' (looked for: loops, veiled, ifaces, maps, wideKeys, modest, calm, conditions, laid).
  DERIVED. THE GIVEN ROWS OF THIS SEAT. 3 by the template 'for every input the law returns true; each argument reads behind the call as it read before'; 0 by the template 'total and deterministic' (their statements: YbulkbbhyTotals.lean).
  GIVEN WITH THE SEED: the statements are not yours to turn. If you find one false, say at which input.
  Laid BY PROGRAM, IN A SANDBOX (cutbox-rows.mjs): the forced cells as the released guide's own fill.sh prints them over the translation 7e6d3d9a6e5f3648… (all of the seat's roots in one cut). By AI agents, Wed Nov 11 2026. No macro, syntax, notation, axiom, sorry.
-/
import Derived.Test.YbulkbbhyChecked
import GoSem.Claim
import GoSem.ClaimJoined
import GoSem.ClaimMapViews
import Derived.JoinedTies
import Derived.KernelRfl
namespace Go.Proofs.Ybulkbbhy
/- THE CELL 'sum', in the pinned program and in every row, IS THE sha256 OF THE DUMP (.gsa) THAT YbulkbbhyProg.lean LOADS. Nothing in Lean hashes anything: it is a label: what it is worth is what the hold of that sum in a sandbox is worth. -/
noncomputable def Yba.pinned : Pinned := { name := "ybulkbbhy", sum := "7e6d3d9a6e5f36481696abcc55968e6ad8ec81348e7882d67665c50039e19d14", checked := Yba.checked }
namespace Rows
def none {H : Type} : Left H := { results := [], args := [] }

/-- 'trigrove.LawS2624AMerge': WHATEVER THE INPUT: true; the input reads as it did. -/
def lawS2624AMergeSpec : ChangeSpec := { name := "lawS2624AMerge", fn := fun _ => fun
  | [d] => { results := [.lit (.bool true)], args := [d] }
  | _ => none }
def lawS2624AMergeRow : OpenClaim := { program := "ybulkbbhy", sum := "7e6d3d9a6e5f36481696abcc55968e6ad8ec81348e7882d67665c50039e19d14", func := "example.com/trigrove/trigrove.LawS2624AMerge", spec := "lawS2624AMerge", named := ["encoding/binary.LittleEndian"], apart := false }
def LawS2624AMergeSaid : Prop := lawS2624AMergeRow.holds Yba.pinned (OpenSpec.ofChange lawS2624AMergeSpec)

/-- ITS FALSE NEIGHBOUR: 'it returns false'. Refute it at one input. -/
def lawS2624AMergeWrong : ChangeSpec := { name := "lawS2624AMerge", fn := fun _ => fun
  | [d] => { results := [.lit (.bool false)], args := [d] }
  | _ => none }
def LawS2624AMergeWrongFalsely : Prop := lawS2624AMergeRow.holds Yba.pinned (OpenSpec.ofChange lawS2624AMergeWrong)

/-- 'trigrove.LawS2624BTreeMin': WHATEVER THE INPUT: true; the input reads as it did. -/
def lawS2624BTreeMinSpec : ChangeSpec := { name := "lawS2624BTreeMin", fn := fun _ => fun
  | [d] => { results := [.lit (.bool true)], args := [d] }
  | _ => none }
def lawS2624BTreeMinRow : OpenClaim := { program := "ybulkbbhy", sum := "7e6d3d9a6e5f36481696abcc55968e6ad8ec81348e7882d67665c50039e19d14", func := "example.com/trigrove/trigrove.LawS2624BTreeMin", spec := "lawS2624BTreeMin", recurses := true, apart := false }
def LawS2624BTreeMinSaid : Prop := lawS2624BTreeMinRow.holds Yba.pinned (OpenSpec.ofChange lawS2624BTreeMinSpec)

/-- ITS FALSE NEIGHBOUR: 'it returns false'. Refute it at one input. -/
def lawS2624BTreeMinWrong : ChangeSpec := { name := "lawS2624BTreeMin", fn := fun _ => fun
  | [d] => { results := [.lit (.bool false)], args := [d] }
  | _ => none }
def LawS2624BTreeMinWrongFalsely : Prop := lawS2624BTreeMinRow.holds Yba.pinned (OpenSpec.ofChange lawS2624BTreeMinWrong)

/-- 'trigrove.LawS2624BLeaf': WHATEVER THE INPUT: true; the input reads as it did. -/
def lawS2624BLeafSpec : ChangeSpec := { name := "lawS2624BLeaf", fn := fun _ => fun
  | [d1, d2, d3] => { results := [.lit (.bool true)], args := [d1, d2, d3] }
  | _ => none }
def lawS2624BLeafRow : OpenClaim := { program := "ybulkbbhy", sum := "7e6d3d9a6e5f36481696abcc55968e6ad8ec81348e7882d67665c50039e19d14", func := "example.com/trigrove/trigrove.LawS2624BLeaf", spec := "lawS2624BLeaf", recurses := true, apart := false }
def LawS2624BLeafSaid : Prop := lawS2624BLeafRow.holds Yba.pinned (OpenSpec.ofChange lawS2624BLeafSpec)

/-- ITS FALSE NEIGHBOUR: 'it returns false'. Refute it at one input. -/
def lawS2624BLeafWrong : ChangeSpec := { name := "lawS2624BLeaf", fn := fun _ => fun
  | [d1, d2, d3] => { results := [.lit (.bool false)], args := [d1, d2, d3] }
  | _ => none }
def LawS2624BLeafWrongFalsely : Prop := lawS2624BLeafRow.holds Yba.pinned (OpenSpec.ofChange lawS2624BLeafWrong)

end Rows
end Go.Proofs.Ybulkbbhy
