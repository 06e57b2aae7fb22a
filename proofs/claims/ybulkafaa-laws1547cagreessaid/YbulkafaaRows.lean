/-
  No cell of these rows narrows 'for every input' (looked for: loops, veiled, ifaces, maps, wideKeys, modest, calm, conditions, laid).
  DERIVED. THE GIVEN ROWS OF THIS SEAT. 1 by the template 'for every input the law returns true; each argument reads behind the call as it read before'; 0 by the template 'total and deterministic' (their statements: YbulkafaaTotals.lean).
  GIVEN WITH THE SEED: the statements are not yours to turn. If you find one false, say at which input.
  Laid BY PROGRAM, IN A SANDBOX (cutbox-rows.mjs): the forced cells as the released guide's own fill.sh prints them over the translation 8bdbd984ab4a9f3a… (all of the seat's roots in one cut). By AI agents, Wed Nov 11 2026. No macro, syntax, notation, axiom, sorry.
-/
import Derived.Test.YbulkafaaChecked
import GoSem.Claim
import GoSem.ClaimJoined
import GoSem.ClaimMapViews
import Derived.JoinedTies
import Derived.KernelRfl
namespace Go.Proofs.Ybulkafaa
/- THE CELL 'sum', in the pinned program and in every row, IS THE sha256 OF THE DUMP (.gsa) THAT YbulkafaaProg.lean LOADS. Nothing in Lean hashes anything: it is a label: what it is worth is what the hold of that sum in a sandbox is worth. -/
noncomputable def Yba.pinned : Pinned := { name := "ybulkafaa", sum := "8bdbd984ab4a9f3aeef164c29aaf401573141ec4eaa2bc2438807fcac8775506", checked := Yba.checked }
namespace Rows
def none {H : Type} : Left H := { results := [], args := [] }

/-- 'spanstone.LawS1547CAgrees': WHATEVER THE INPUT: true; the input reads as it did. -/
def lawS1547CAgreesSpec : ChangeSpec := { name := "lawS1547CAgrees", fn := fun _ => fun
  | [d1, d2, d3] => { results := [.lit (.bool true)], args := [d1, d2, d3] }
  | _ => none }
def lawS1547CAgreesRow : OpenClaim := { program := "ybulkafaa", sum := "8bdbd984ab4a9f3aeef164c29aaf401573141ec4eaa2bc2438807fcac8775506", func := "example.com/spanstone/spanstone.LawS1547CAgrees", spec := "lawS1547CAgrees", inPlace := ["internal/bytealg.Compare"], unfollowed := true, recurses := true, apart := false }
def LawS1547CAgreesSaid : Prop := lawS1547CAgreesRow.holds Yba.pinned (OpenSpec.ofChange lawS1547CAgreesSpec)

/-- ITS FALSE NEIGHBOUR: 'it returns false'. Refute it at one input. -/
def lawS1547CAgreesWrong : ChangeSpec := { name := "lawS1547CAgrees", fn := fun _ => fun
  | [d1, d2, d3] => { results := [.lit (.bool false)], args := [d1, d2, d3] }
  | _ => none }
def LawS1547CAgreesWrongFalsely : Prop := lawS1547CAgreesRow.holds Yba.pinned (OpenSpec.ofChange lawS1547CAgreesWrong)

end Rows
end Go.Proofs.Ybulkafaa
