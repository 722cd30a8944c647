/-
  No cell of these rows narrows 'for every input' (looked for: loops, veiled, ifaces, maps, wideKeys, modest, calm, conditions, laid).
  DERIVED. THE GIVEN ROWS OF THIS SEAT. 5 by the template 'for every input the law returns true; each argument reads behind the call as it read before'; 0 by the template 'total and deterministic' (their statements: YbulkbbfuTotals.lean).
  GIVEN WITH THE SEED: the statements are not yours to turn. If you find one false, say at which input.
  Laid BY PROGRAM, IN A SANDBOX (cutbox-rows.mjs): the forced cells as the released guide's own fill.sh prints them over the translation 0145d112d1c523f7… (all of the seat's roots in one cut). By AI agents, Wed Nov 11 2026. No macro, syntax, notation, axiom, sorry.
-/
import Derived.Test.YbulkbbfuChecked
import GoSem.Claim
import GoSem.ClaimJoined
import GoSem.ClaimMapViews
import Derived.JoinedTies
import Derived.KernelRfl
namespace Go.Proofs.Ybulkbbfu
/- THE CELL 'sum', in the pinned program and in every row, IS THE sha256 OF THE DUMP (.gsa) THAT YbulkbbfuProg.lean LOADS. Nothing in Lean hashes anything: it is a label: what it is worth is what the hold of that sum in a sandbox is worth. -/
noncomputable def Yba.pinned : Pinned := { name := "ybulkbbfu", sum := "0145d112d1c523f702000025604f41969011ffc44a114be34af7a07ea4b8e66f", checked := Yba.checked }
namespace Rows
def none {H : Type} : Left H := { results := [], args := [] }

/-- 'tributary.LawS2620AModel': WHATEVER THE INPUT: true; the input reads as it did. -/
def lawS2620AModelSpec : ChangeSpec := { name := "lawS2620AModel", fn := fun _ => fun
  | [d1, d2] => { results := [.lit (.bool true)], args := [d1, d2] }
  | _ => none }
def lawS2620AModelRow : OpenClaim := { program := "ybulkbbfu", sum := "0145d112d1c523f702000025604f41969011ffc44a114be34af7a07ea4b8e66f", func := "example.com/tributary/tributary.LawS2620AModel", spec := "lawS2620AModel", apart := false }
def LawS2620AModelSaid : Prop := lawS2620AModelRow.holds Yba.pinned (OpenSpec.ofChange lawS2620AModelSpec)

/-- ITS FALSE NEIGHBOUR: 'it returns false'. Refute it at one input. -/
def lawS2620AModelWrong : ChangeSpec := { name := "lawS2620AModel", fn := fun _ => fun
  | [d1, d2] => { results := [.lit (.bool false)], args := [d1, d2] }
  | _ => none }
def LawS2620AModelWrongFalsely : Prop := lawS2620AModelRow.holds Yba.pinned (OpenSpec.ofChange lawS2620AModelWrong)

/-- 'tributary.LawS2620APlusMinus': WHATEVER THE INPUT: true; the input reads as it did. -/
def lawS2620APlusMinusSpec : ChangeSpec := { name := "lawS2620APlusMinus", fn := fun _ => fun
  | [d1, d2] => { results := [.lit (.bool true)], args := [d1, d2] }
  | _ => none }
def lawS2620APlusMinusRow : OpenClaim := { program := "ybulkbbfu", sum := "0145d112d1c523f702000025604f41969011ffc44a114be34af7a07ea4b8e66f", func := "example.com/tributary/tributary.LawS2620APlusMinus", spec := "lawS2620APlusMinus", apart := false }
def LawS2620APlusMinusSaid : Prop := lawS2620APlusMinusRow.holds Yba.pinned (OpenSpec.ofChange lawS2620APlusMinusSpec)

/-- ITS FALSE NEIGHBOUR: 'it returns false'. Refute it at one input. -/
def lawS2620APlusMinusWrong : ChangeSpec := { name := "lawS2620APlusMinus", fn := fun _ => fun
  | [d1, d2] => { results := [.lit (.bool false)], args := [d1, d2] }
  | _ => none }
def LawS2620APlusMinusWrongFalsely : Prop := lawS2620APlusMinusRow.holds Yba.pinned (OpenSpec.ofChange lawS2620APlusMinusWrong)

/-- 'tributary.LawS2620AMonotone': WHATEVER THE INPUT: true; the input reads as it did. -/
def lawS2620AMonotoneSpec : ChangeSpec := { name := "lawS2620AMonotone", fn := fun _ => fun
  | [d1, d2, d3] => { results := [.lit (.bool true)], args := [d1, d2, d3] }
  | _ => none }
def lawS2620AMonotoneRow : OpenClaim := { program := "ybulkbbfu", sum := "0145d112d1c523f702000025604f41969011ffc44a114be34af7a07ea4b8e66f", func := "example.com/tributary/tributary.LawS2620AMonotone", spec := "lawS2620AMonotone", apart := false }
def LawS2620AMonotoneSaid : Prop := lawS2620AMonotoneRow.holds Yba.pinned (OpenSpec.ofChange lawS2620AMonotoneSpec)

/-- ITS FALSE NEIGHBOUR: 'it returns false'. Refute it at one input. -/
def lawS2620AMonotoneWrong : ChangeSpec := { name := "lawS2620AMonotone", fn := fun _ => fun
  | [d1, d2, d3] => { results := [.lit (.bool false)], args := [d1, d2, d3] }
  | _ => none }
def LawS2620AMonotoneWrongFalsely : Prop := lawS2620AMonotoneRow.holds Yba.pinned (OpenSpec.ofChange lawS2620AMonotoneWrong)

/-- 'tributary.LawS2620BTopicOrder': WHATEVER THE INPUT: true; the input reads as it did. -/
def lawS2620BTopicOrderSpec : ChangeSpec := { name := "lawS2620BTopicOrder", fn := fun _ => fun
  | [d1, d2] => { results := [.lit (.bool true)], args := [d1, d2] }
  | _ => none }
def lawS2620BTopicOrderRow : OpenClaim := { program := "ybulkbbfu", sum := "0145d112d1c523f702000025604f41969011ffc44a114be34af7a07ea4b8e66f", func := "example.com/tributary/tributary.LawS2620BTopicOrder", spec := "lawS2620BTopicOrder", inPlace := ["internal/bytealg.abigen_runtime_cmpstring"], unfollowed := true, recurses := true, apart := false }
def LawS2620BTopicOrderSaid : Prop := lawS2620BTopicOrderRow.holds Yba.pinned (OpenSpec.ofChange lawS2620BTopicOrderSpec)

/-- ITS FALSE NEIGHBOUR: 'it returns false'. Refute it at one input. -/
def lawS2620BTopicOrderWrong : ChangeSpec := { name := "lawS2620BTopicOrder", fn := fun _ => fun
  | [d1, d2] => { results := [.lit (.bool false)], args := [d1, d2] }
  | _ => none }
def LawS2620BTopicOrderWrongFalsely : Prop := lawS2620BTopicOrderRow.holds Yba.pinned (OpenSpec.ofChange lawS2620BTopicOrderWrong)

/-- 'tributary.LawS2620BPlainOrder': WHATEVER THE INPUT: true; the input reads as it did. -/
def lawS2620BPlainOrderSpec : ChangeSpec := { name := "lawS2620BPlainOrder", fn := fun _ => fun
  | [d] => { results := [.lit (.bool true)], args := [d] }
  | _ => none }
def lawS2620BPlainOrderRow : OpenClaim := { program := "ybulkbbfu", sum := "0145d112d1c523f702000025604f41969011ffc44a114be34af7a07ea4b8e66f", func := "example.com/tributary/tributary.LawS2620BPlainOrder", spec := "lawS2620BPlainOrder", inPlace := ["internal/bytealg.abigen_runtime_cmpstring"], unfollowed := true, recurses := true, apart := false }
def LawS2620BPlainOrderSaid : Prop := lawS2620BPlainOrderRow.holds Yba.pinned (OpenSpec.ofChange lawS2620BPlainOrderSpec)

/-- ITS FALSE NEIGHBOUR: 'it returns false'. Refute it at one input. -/
def lawS2620BPlainOrderWrong : ChangeSpec := { name := "lawS2620BPlainOrder", fn := fun _ => fun
  | [d] => { results := [.lit (.bool false)], args := [d] }
  | _ => none }
def LawS2620BPlainOrderWrongFalsely : Prop := lawS2620BPlainOrderRow.holds Yba.pinned (OpenSpec.ofChange lawS2620BPlainOrderWrong)

end Rows
end Go.Proofs.Ybulkbbfu
