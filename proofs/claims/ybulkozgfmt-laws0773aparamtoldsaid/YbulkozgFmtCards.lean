/-
  DERIVED. GIVEN WITH THE SEED: THE CARDS: each row of YbulkozgFmtRows.lean that lists a variable, with what it lists TIED to the program's text (the seventh form; the later family's looks); each row that meets fmt, with fmt's text TOLD by the authors' own Lean function (tested against real Go, not proved from fmt's source: count such statements apart). THE CARD IS WHAT COUNTS. Prove the row's statement (the work); the ties are given (YbulkozgFmtTie.lean); close each card by the builder's one call (the guide's Derived/Test/ToyasCard.lean, 'card_holds'). Laid BY PROGRAM, IN A SANDBOX (cutbox-door.mjs). By AI agents, Wed Nov 11 2026. No macro, syntax, notation, axiom, sorry.
-/
import Derived.Test.YbulkozgFmtRows
import GoSem.ClaimSeven
namespace Go.Proofs.YbulkozgFmt
namespace Rows

/-- THE TOLD AND TIED CARD OF 'creel.LawS0773AParam'. -/
def lawS0773AParamCard : Claim7 := { stood := { row := lawS0773AParamRow, standIns := [], harness := (true, "9b2568cbed765ffbdd59c776f21c5bb736d0a27760d94018fc92c3ca28ec0344"), looks := true }, told := true, laidByText := true, laidKinds := [.handle, .sentinel, .sentinel], laidTests := true, laidLooks := .later, goes := false }
def LawS0773AParamToldSaid : Prop := Claim7.holds Ybaf.pinned (.plain (OpenSpec.ofChange lawS0773AParamSpec)) lawS0773AParamCard
/-- ITS FALSE NEIGHBOUR. Refute it at one input. -/
def LawS0773AParamToldWrongFalsely : Prop := Claim7.holds Ybaf.pinned (.plain (OpenSpec.ofChange lawS0773AParamWrong)) lawS0773AParamCard
end Rows
end Go.Proofs.YbulkozgFmt
