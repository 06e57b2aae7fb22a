/-
  DERIVED. GIVEN WITH THE SEED: THE CARDS: each row of YbulkafaaDoorRows.lean that lists a variable, with what it lists TIED to the program's text (the seventh form; the later family's looks); each row that meets fmt, with fmt's text TOLD by the authors' own Lean function (tested against real Go, not proved from fmt's source: count such statements apart). THE CARD IS WHAT COUNTS. Prove the row's statement (the work); the ties are given (YbulkafaaDoorTie.lean); close each card by the builder's one call (the guide's Derived/Test/ToyasCard.lean, 'card_holds'). Laid BY PROGRAM, IN A SANDBOX (cutbox-door.mjs). By AI agents, Wed Nov 11 2026. No macro, syntax, notation, axiom, sorry.
-/
import Derived.Test.YbulkafaaDoorRows
import GoSem.ClaimSeven
namespace Go.Proofs.YbulkafaaDoor
namespace Rows

/-- THE TIED CARD OF 'spanstone.LawS1547AModel'. -/
def lawS1547AModelCard : Claim7 := { stood := { row := lawS1547AModelRow, standIns := [], harness := (true, "9bf0df4b8deb60824a530c730d1c64f77a15bad8c8b8420165374e3451954eb2"), looks := false }, kinds := [], alts := [], laidByText := true, laidKinds := [.data], laidTests := true, laidLooks := .later }
def LawS1547AModelCardSaid : Prop := Claim7.holds Ybad.pinned (.plain (OpenSpec.ofChange lawS1547AModelSpec)) lawS1547AModelCard
end Rows
end Go.Proofs.YbulkafaaDoor
