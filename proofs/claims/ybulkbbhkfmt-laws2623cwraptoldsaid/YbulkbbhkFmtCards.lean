/-
  DERIVED. GIVEN WITH THE SEED: THE CARDS: each row of YbulkbbhkFmtRows.lean that lists a variable, with what it lists TIED to the program's text (the seventh form; the later family's looks); each row that meets fmt, with fmt's text TOLD by the authors' own Lean function (tested against real Go, not proved from fmt's source: count such statements apart). THE CARD IS WHAT COUNTS. Prove the row's statement (the work); the ties are given (YbulkbbhkFmtTie.lean); close each card by the builder's one call (the guide's Derived/Test/ToyasCard.lean, 'card_holds'). Laid BY PROGRAM, IN A SANDBOX (cutbox-door.mjs). By AI agents, Wed Nov 11 2026. No macro, syntax, notation, axiom, sorry.
-/
import Derived.Test.YbulkbbhkFmtRows
import GoSem.ClaimSeven
namespace Go.Proofs.YbulkbbhkFmt
namespace Rows

/-- THE TOLD AND TIED CARD OF 'kinkwell.LawS2623BTakeForm'. -/
def lawS2623BTakeFormCard : Claim7 := { stood := { row := lawS2623BTakeFormRow, standIns := [], harness := (true, "cfbf6aa679a9ef1438a79c2ac005d5ddc33826288ebfa19a4ec85c6350cf9175"), looks := true }, told := true, laidByText := true, laidKinds := [.data, .data, .data, .data, .pinned, .pinned, .pinned, .pinned, .pinned, .pinned], laidTests := true, laidLooks := .later, goes := false }
def LawS2623BTakeFormToldSaid : Prop := Claim7.holds Ybaf.pinned (.plain (OpenSpec.ofChange lawS2623BTakeFormSpec)) lawS2623BTakeFormCard
/-- ITS FALSE NEIGHBOUR. Refute it at one input. -/
def LawS2623BTakeFormToldWrongFalsely : Prop := Claim7.holds Ybaf.pinned (.plain (OpenSpec.ofChange lawS2623BTakeFormWrong)) lawS2623BTakeFormCard

/-- THE TOLD CARD OF 'kinkwell.LawS2623CWrap'. -/
def lawS2623CWrapCard : Claim7 := { stood := { row := lawS2623CWrapRow, standIns := [], harness := (true, "cfbf6aa679a9ef1438a79c2ac005d5ddc33826288ebfa19a4ec85c6350cf9175"), looks := true }, told := true, goes := false }
def LawS2623CWrapToldSaid : Prop := Claim7.holds Ybaf.pinned (.plain (OpenSpec.ofChange lawS2623CWrapSpec)) lawS2623CWrapCard
/-- ITS FALSE NEIGHBOUR. Refute it at one input. -/
def LawS2623CWrapToldWrongFalsely : Prop := Claim7.holds Ybaf.pinned (.plain (OpenSpec.ofChange lawS2623CWrapWrong)) lawS2623CWrapCard

/-- THE TOLD AND TIED CARD OF 'kinkwell.LawS2623CAs'. -/
def lawS2623CAsCard : Claim7 := { stood := { row := lawS2623CAsRow, standIns := [], harness := (true, "cfbf6aa679a9ef1438a79c2ac005d5ddc33826288ebfa19a4ec85c6350cf9175"), looks := true }, told := true, laidByText := true, laidKinds := [.handle], laidTests := true, laidLooks := .later, goes := false }
def LawS2623CAsToldSaid : Prop := Claim7.holds Ybaf.pinned (.plain (OpenSpec.ofChange lawS2623CAsSpec)) lawS2623CAsCard
/-- ITS FALSE NEIGHBOUR. Refute it at one input. -/
def LawS2623CAsToldWrongFalsely : Prop := Claim7.holds Ybaf.pinned (.plain (OpenSpec.ofChange lawS2623CAsWrong)) lawS2623CAsCard
end Rows
end Go.Proofs.YbulkbbhkFmt
