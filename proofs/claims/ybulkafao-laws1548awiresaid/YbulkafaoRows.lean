/-
  No cell of these rows narrows 'for every input' (looked for: loops, veiled, ifaces, maps, wideKeys, modest, calm, conditions, laid).
  DERIVED. THE GIVEN ROWS OF THIS SEAT. 1 by the template 'for every input the law returns true; each argument reads behind the call as it read before'; 0 by the template 'total and deterministic' (their statements: YbulkafaoTotals.lean).
  GIVEN WITH THE SEED: the statements are not yours to turn. If you find one false, say at which input.
  Laid BY PROGRAM, IN A SANDBOX (cutbox-rows.mjs): the forced cells as the released guide's own fill.sh prints them over the translation d37c7c90dbdaf8c0… (all of the seat's roots in one cut). By AI agents, Wed Nov 11 2026. No macro, syntax, notation, axiom, sorry.
-/
import Derived.Test.YbulkafaoChecked
import GoSem.Claim
import GoSem.ClaimJoined
import GoSem.ClaimMapViews
import Derived.JoinedTies
import Derived.KernelRfl
namespace Go.Proofs.Ybulkafao
/- THE CELL 'sum', in the pinned program and in every row, IS THE sha256 OF THE DUMP (.gsa) THAT YbulkafaoProg.lean LOADS. Nothing in Lean hashes anything: it is a label: what it is worth is what the hold of that sum in a sandbox is worth. -/
noncomputable def Yba.pinned : Pinned := { name := "ybulkafao", sum := "d37c7c90dbdaf8c0648d4927e73ccfebe33b45f64d014cda7b3b96221d78c49c", checked := Yba.checked }
namespace Rows
def none {H : Type} : Left H := { results := [], args := [] }

/-- 'wireloom.LawS1548AWire': WHATEVER THE INPUT: true; the input reads as it did. -/
def lawS1548AWireSpec : ChangeSpec := { name := "lawS1548AWire", fn := fun _ => fun
  | [d1, d2, d3, d4] => { results := [.lit (.bool true)], args := [d1, d2, d3, d4] }
  | _ => none }
def lawS1548AWireRow : OpenClaim := { program := "ybulkafao", sum := "d37c7c90dbdaf8c0648d4927e73ccfebe33b45f64d014cda7b3b96221d78c49c", func := "example.com/wireloom/wireloom.LawS1548AWire", spec := "lawS1548AWire", named := ["encoding/binary.BigEndian"], plainKeys := false, apart := false }
def LawS1548AWireSaid : Prop := lawS1548AWireRow.holds Yba.pinned (OpenSpec.ofChange lawS1548AWireSpec)

/-- ITS FALSE NEIGHBOUR: 'it returns false'. Refute it at one input. -/
def lawS1548AWireWrong : ChangeSpec := { name := "lawS1548AWire", fn := fun _ => fun
  | [d1, d2, d3, d4] => { results := [.lit (.bool false)], args := [d1, d2, d3, d4] }
  | _ => none }
def LawS1548AWireWrongFalsely : Prop := lawS1548AWireRow.holds Yba.pinned (OpenSpec.ofChange lawS1548AWireWrong)

end Rows
end Go.Proofs.Ybulkafao
