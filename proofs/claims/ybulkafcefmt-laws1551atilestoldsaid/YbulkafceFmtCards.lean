/-
  DERIVED. GIVEN WITH THE SEED: THE CARDS: each row of YbulkafceFmtRows.lean that lists a variable, with what it lists TIED to the program's text (the seventh form; the later family's looks); each row that meets fmt, with fmt's text TOLD by the authors' own Lean function (tested against real Go, not proved from fmt's source: count such statements apart). THE CARD IS WHAT COUNTS. Prove the row's statement (the work); the ties are given (YbulkafceFmtTie.lean); close each card by the builder's one call (the guide's Derived/Test/ToyasCard.lean, 'card_holds'). Laid BY PROGRAM, IN A SANDBOX (cutbox-door.mjs). By AI agents, Wed Nov 11 2026. No macro, syntax, notation, axiom, sorry.
-/
import Derived.Test.YbulkafceFmtRows
import GoSem.ClaimSeven
namespace Go.Proofs.YbulkafceFmt
namespace Rows

/-- THE TOLD AND TIED CARD OF 'quantum.LawS1551ATiles'. -/
def lawS1551ATilesCard : Claim7 := { stood := { row := lawS1551ATilesRow, standIns := [], harness := (true, "0918417e687141a5c79e42b437b295cf4017cae2c8173a044a66e1607fda1674"), looks := false }, told := true, laidByText := true, laidKinds := [.data], laidTests := true, laidLooks := .later, goes := false }
def LawS1551ATilesToldSaid : Prop := Claim7.holds Ybaf.pinned (.plain (OpenSpec.ofChange lawS1551ATilesSpec)) lawS1551ATilesCard
/-- ITS FALSE NEIGHBOUR. Refute it at one input. -/
def LawS1551ATilesToldWrongFalsely : Prop := Claim7.holds Ybaf.pinned (.plain (OpenSpec.ofChange lawS1551ATilesWrong)) lawS1551ATilesCard

/-- THE TOLD AND TIED CARD OF 'quantum.LawS1551AReuse'. -/
def lawS1551AReuseCard : Claim7 := { stood := { row := lawS1551AReuseRow, standIns := [], harness := (true, "0918417e687141a5c79e42b437b295cf4017cae2c8173a044a66e1607fda1674"), looks := false }, told := true, laidByText := true, laidKinds := [.data], laidTests := true, laidLooks := .later, goes := false }
def LawS1551AReuseToldSaid : Prop := Claim7.holds Ybaf.pinned (.plain (OpenSpec.ofChange lawS1551AReuseSpec)) lawS1551AReuseCard
/-- ITS FALSE NEIGHBOUR. Refute it at one input. -/
def LawS1551AReuseToldWrongFalsely : Prop := Claim7.holds Ybaf.pinned (.plain (OpenSpec.ofChange lawS1551AReuseWrong)) lawS1551AReuseCard
end Rows
end Go.Proofs.YbulkafceFmt
