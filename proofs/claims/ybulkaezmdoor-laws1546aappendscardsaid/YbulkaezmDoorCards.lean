/-
  DERIVED. GIVEN WITH THE SEED: THE CARDS: each row of YbulkaezmDoorRows.lean that lists a variable, with what it lists TIED to the program's text (the seventh form; the later family's looks); each row that meets fmt, with fmt's text TOLD by the authors' own Lean function (tested against real Go, not proved from fmt's source: count such statements apart). THE CARD IS WHAT COUNTS. Prove the row's statement (the work); the ties are given (YbulkaezmDoorTie.lean); close each card by the builder's one call (the guide's Derived/Test/ToyasCard.lean, 'card_holds'). Laid BY PROGRAM, IN A SANDBOX (cutbox-door.mjs). By AI agents, Wed Nov 11 2026. No macro, syntax, notation, axiom, sorry.
-/
import Derived.Test.YbulkaezmDoorRows
import GoSem.ClaimSeven
namespace Go.Proofs.YbulkaezmDoor
namespace Rows

/-- THE TIED CARD OF 'delimiter.LawS1546AAppends'. -/
def lawS1546AAppendsCard : Claim7 := { stood := { row := lawS1546AAppendsRow, standIns := [], harness := (true, "d688193c0b12e3998035d9fc538a467f11a7680ba07ead9404b225deae307d49"), looks := false }, kinds := [], alts := [], laidByText := true, laidKinds := [.data, .data, .data], laidTests := true, laidLooks := .later }
def LawS1546AAppendsCardSaid : Prop := Claim7.holds Ybad.pinned (.plain (OpenSpec.ofChange lawS1546AAppendsSpec)) lawS1546AAppendsCard
end Rows
end Go.Proofs.YbulkaezmDoor
