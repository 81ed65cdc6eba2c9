/-
  No cell of these rows narrows 'for every input' (looked for: loops, veiled, ifaces, maps, wideKeys, modest, calm, conditions, laid).
  DERIVED. THE GIVEN ROWS OF THIS SEAT. 1 by the template 'for every input the law returns true; each argument reads behind the call as it read before'; 0 by the template 'total and deterministic' (their statements: YbulkakawTotals.lean).
  GIVEN WITH THE SEED: the statements are not yours to turn. If you find one false, say at which input.
  Laid BY PROGRAM, IN A SANDBOX (cutbox-rows.mjs): the forced cells as the released guide's own fill.sh prints them over the translation 6488f4d8ab1a79e1… (all of the seat's roots in one cut). By AI agents, Wed Nov 11 2026. No macro, syntax, notation, axiom, sorry.
-/
import Derived.Test.YbulkakawChecked
import GoSem.Claim
import GoSem.ClaimJoined
import GoSem.ClaimMapViews
import Derived.JoinedTies
import Derived.KernelRfl
namespace Go.Proofs.Ybulkakaw
/- THE CELL 'sum', in the pinned program and in every row, IS THE sha256 OF THE DUMP (.gsa) THAT YbulkakawProg.lean LOADS. Nothing in Lean hashes anything: it is a label: what it is worth is what the hold of that sum in a sandbox is worth. -/
noncomputable def Yba.pinned : Pinned := { name := "ybulkakaw", sum := "6488f4d8ab1a79e1be0a5e36060ca723eee31d021d7cfe8e8215035e1d091303", checked := Yba.checked }
namespace Rows
def none {H : Type} : Left H := { results := [], args := [] }

/-- 'loopcadence.LawS1790AStop': WHATEVER THE INPUT: true; the input reads as it did. -/
def lawS1790AStopSpec : ChangeSpec := { name := "lawS1790AStop", fn := fun _ => fun
  | [d1, d2, d3, d4] => { results := [.lit (.bool true)], args := [d1, d2, d3, d4] }
  | _ => none }
def lawS1790AStopRow : OpenClaim := { program := "ybulkakaw", sum := "6488f4d8ab1a79e1be0a5e36060ca723eee31d021d7cfe8e8215035e1d091303", func := "example.com/loopcadence/loopcadence.LawS1790AStop", spec := "lawS1790AStop", unfollowed := true, recurses := true, apart := false }
def LawS1790AStopSaid : Prop := lawS1790AStopRow.holds Yba.pinned (OpenSpec.ofChange lawS1790AStopSpec)

/-- ITS FALSE NEIGHBOUR: 'it returns false'. Refute it at one input. -/
def lawS1790AStopWrong : ChangeSpec := { name := "lawS1790AStop", fn := fun _ => fun
  | [d1, d2, d3, d4] => { results := [.lit (.bool false)], args := [d1, d2, d3, d4] }
  | _ => none }
def LawS1790AStopWrongFalsely : Prop := lawS1790AStopRow.holds Yba.pinned (OpenSpec.ofChange lawS1790AStopWrong)

end Rows
end Go.Proofs.Ybulkakaw
