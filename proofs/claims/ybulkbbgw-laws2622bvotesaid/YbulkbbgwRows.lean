/-
  No cell of these rows narrows 'for every input' (looked for: loops, veiled, ifaces, maps, wideKeys, modest, calm, conditions, laid).
  DERIVED. THE GIVEN ROWS OF THIS SEAT. 1 by the template 'for every input the law returns true; each argument reads behind the call as it read before'; 0 by the template 'total and deterministic' (their statements: YbulkbbgwTotals.lean).
  GIVEN WITH THE SEED: the statements are not yours to turn. If you find one false, say at which input.
  Laid BY PROGRAM, IN A SANDBOX (cutbox-rows.mjs): the forced cells as the released guide's own fill.sh prints them over the translation 9a9f040b25645fe6… (all of the seat's roots in one cut). By AI agents, Wed Nov 11 2026. No macro, syntax, notation, axiom, sorry.
-/
import Derived.Test.YbulkbbgwChecked
import GoSem.Claim
import GoSem.ClaimJoined
import GoSem.ClaimMapViews
import Derived.JoinedTies
import Derived.KernelRfl
namespace Go.Proofs.Ybulkbbgw
/- THE CELL 'sum', in the pinned program and in every row, IS THE sha256 OF THE DUMP (.gsa) THAT YbulkbbgwProg.lean LOADS. Nothing in Lean hashes anything: it is a label: what it is worth is what the hold of that sum in a sandbox is worth. -/
noncomputable def Yba.pinned : Pinned := { name := "ybulkbbgw", sum := "9a9f040b25645fe6ed8db9ad6cd5365c01712d49eda9e9533812367d5b5bd662", checked := Yba.checked }
namespace Rows
def none {H : Type} : Left H := { results := [], args := [] }

/-- 'consentry.LawS2622BVote': WHATEVER THE INPUT: true; the input reads as it did. -/
def lawS2622BVoteSpec : ChangeSpec := { name := "lawS2622BVote", fn := fun _ => fun
  | [d1, d2, d3, d4, d5, d6, d7] => { results := [.lit (.bool true)], args := [d1, d2, d3, d4, d5, d6, d7] }
  | _ => none }
def lawS2622BVoteRow : OpenClaim := { program := "ybulkbbgw", sum := "9a9f040b25645fe6ed8db9ad6cd5365c01712d49eda9e9533812367d5b5bd662", func := "example.com/consentry/consentry.LawS2622BVote", spec := "lawS2622BVote", unfollowed := true, recurses := true, apart := false }
def LawS2622BVoteSaid : Prop := lawS2622BVoteRow.holds Yba.pinned (OpenSpec.ofChange lawS2622BVoteSpec)

/-- ITS FALSE NEIGHBOUR: 'it returns false'. Refute it at one input. -/
def lawS2622BVoteWrong : ChangeSpec := { name := "lawS2622BVote", fn := fun _ => fun
  | [d1, d2, d3, d4, d5, d6, d7] => { results := [.lit (.bool false)], args := [d1, d2, d3, d4, d5, d6, d7] }
  | _ => none }
def LawS2622BVoteWrongFalsely : Prop := lawS2622BVoteRow.holds Yba.pinned (OpenSpec.ofChange lawS2622BVoteWrong)

end Rows
end Go.Proofs.Ybulkbbgw
