/-
  No cell of these rows narrows 'for every input' (looked for: loops, veiled, ifaces, maps, wideKeys, modest, calm, conditions, laid).
  DERIVED. THE GIVEN ROWS OF THIS SEAT. 1 by the template 'for every input the law returns true; each argument reads behind the call as it read before'; 0 by the template 'total and deterministic' (their statements: YbulkafaoFmtTotals.lean).
  GIVEN WITH THE SEED: the statements are not yours to turn. If you find one false, say at which input.
  Laid BY PROGRAM, IN A SANDBOX (cutbox-rows.mjs): the forced cells as the released guide's own fill.sh prints them over the translation 405c2b724dcff030… (all of the seat's roots in one cut). By AI agents, Wed Nov 11 2026. No macro, syntax, notation, axiom, sorry.
-/
import Derived.Test.YbulkafaoFmtChecked
import GoSem.Claim
import GoSem.ClaimJoined
import GoSem.ClaimMapViews
import Derived.JoinedTies
import Derived.KernelRfl
namespace Go.Proofs.YbulkafaoFmt
/- THE CELL 'sum', in the pinned program and in every row, IS THE sha256 OF THE DUMP (.gsa) THAT YbulkafaoFmtProg.lean LOADS. Nothing in Lean hashes anything: it is a label: what it is worth is what the hold of that sum in a sandbox is worth. -/
noncomputable def Ybaf.pinned : Pinned := { name := "ybulkafaofmt", sum := "405c2b724dcff030ee7aa02cd8612742e2f4c846cffb6c562c0251fb498e7e81", checked := Ybaf.checked }
namespace Rows
def none {H : Type} : Left H := { results := [], args := [] }

/-- 'wireloom.LawS1548ARoundTrip': WHATEVER THE INPUT: true; the input reads as it did. -/
def lawS1548ARoundTripSpec : ChangeSpec := { name := "lawS1548ARoundTrip", fn := fun _ => fun
  | [d1, d2, d3] => { results := [.lit (.bool true)], args := [d1, d2, d3] }
  | _ => none }
def lawS1548ARoundTripRow : OpenClaim := { program := "ybulkafaofmt", sum := "405c2b724dcff030ee7aa02cd8612742e2f4c846cffb6c562c0251fb498e7e81", func := "example.com/wireloom/wireloom.LawS1548ARoundTrip", spec := "lawS1548ARoundTrip", stops := ["fmt.errorf"], inPlace := ["fmt.errorf"], named := ["encoding/binary.BigEndian"], plainKeys := false, apart := false }
/-- NO THEOREM (fmt's text is open here; it may be false): for the released tool's asking of the row's closed facts alone. THE STATEMENT IS 'LawS1548ARoundTripToldSaid' (YbulkafaoFmtCards.lean). -/
def LawS1548ARoundTripFormAsk : Prop := lawS1548ARoundTripRow.holds Ybaf.pinned (OpenSpec.ofChange lawS1548ARoundTripSpec)

/-- ITS FALSE NEIGHBOUR: 'it returns false'. Refute it at one input. -/
def lawS1548ARoundTripWrong : ChangeSpec := { name := "lawS1548ARoundTrip", fn := fun _ => fun
  | [d1, d2, d3] => { results := [.lit (.bool false)], args := [d1, d2, d3] }
  | _ => none }
def LawS1548ARoundTripWrongFormAsk : Prop := lawS1548ARoundTripRow.holds Ybaf.pinned (OpenSpec.ofChange lawS1548ARoundTripWrong)

end Rows
end Go.Proofs.YbulkafaoFmt
