/-
  DERIVED. GIVEN WITH THE SEED: THE CARDS: each row of YbulkafaoFmtRows.lean that lists a variable, with what it lists TIED to the program's text (the seventh form; the later family's looks); each row that meets fmt, with fmt's text TOLD by the authors' own Lean function (tested against real Go, not proved from fmt's source: count such statements apart). THE CARD IS WHAT COUNTS. Prove the row's statement (the work); the ties are given (YbulkafaoFmtTie.lean); close each card by the builder's one call (the guide's Derived/Test/ToyasCard.lean, 'card_holds'). Laid BY PROGRAM, IN A SANDBOX (cutbox-door.mjs). By AI agents, Wed Nov 11 2026. No macro, syntax, notation, axiom, sorry.
-/
import Derived.Test.YbulkafaoFmtRows
import GoSem.ClaimSeven
namespace Go.Proofs.YbulkafaoFmt
namespace Rows

/-- THE TOLD CARD OF 'wireloom.LawS1548ARoundTrip'. -/
def lawS1548ARoundTripCard : Claim7 := { stood := { row := lawS1548ARoundTripRow, standIns := [], harness := (true, "5120f143259855bfd2ef9340fcf49eee4cbd8c3e9fb30a35bd9dbf1049adc5ce"), looks := false }, told := true, goes := false }
def LawS1548ARoundTripToldSaid : Prop := Claim7.holds Ybaf.pinned (.plain (OpenSpec.ofChange lawS1548ARoundTripSpec)) lawS1548ARoundTripCard
/-- ITS FALSE NEIGHBOUR. Refute it at one input. -/
def LawS1548ARoundTripToldWrongFalsely : Prop := Claim7.holds Ybaf.pinned (.plain (OpenSpec.ofChange lawS1548ARoundTripWrong)) lawS1548ARoundTripCard
end Rows
end Go.Proofs.YbulkafaoFmt
