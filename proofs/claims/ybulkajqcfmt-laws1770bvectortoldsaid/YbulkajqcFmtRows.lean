/-
  No cell of these rows narrows 'for every input' (looked for: loops, veiled, ifaces, maps, wideKeys, modest, calm, conditions, laid).
  DERIVED. THE GIVEN ROWS OF THIS SEAT. 1 by the template 'for every input the law returns true; each argument reads behind the call as it read before'; 0 by the template 'total and deterministic' (their statements: YbulkajqcFmtTotals.lean).
  GIVEN WITH THE SEED: the statements are not yours to turn. If you find one false, say at which input.
  Laid BY PROGRAM, IN A SANDBOX (cutbox-rows.mjs): the forced cells as the released guide's own fill.sh prints them over the translation 7a381853aa245b0c… (all of the seat's roots in one cut). By AI agents, Wed Nov 11 2026. No macro, syntax, notation, axiom, sorry.
-/
import Derived.Test.YbulkajqcFmtChecked
import GoSem.Claim
import GoSem.ClaimJoined
import GoSem.ClaimMapViews
import Derived.JoinedTies
import Derived.KernelRfl
namespace Go.Proofs.YbulkajqcFmt
/- THE CELL 'sum', in the pinned program and in every row, IS THE sha256 OF THE DUMP (.gsa) THAT YbulkajqcFmtProg.lean LOADS. Nothing in Lean hashes anything: it is a label: what it is worth is what the hold of that sum in a sandbox is worth. -/
noncomputable def Ybaf.pinned : Pinned := { name := "ybulkajqcfmt", sum := "7a381853aa245b0c20c991c710792ea5f7dddc68a117e931048b97c2c561177f", checked := Ybaf.checked }
namespace Rows
def none {H : Type} : Left H := { results := [], args := [] }

/-- 'wasm.LawS1770BVector': WHATEVER THE INPUT: true; the input reads as it did. -/
def lawS1770BVectorSpec : ChangeSpec := { name := "lawS1770BVector", fn := fun _ => fun
  | [d1, d2, d3, d4, d5] => { results := [.lit (.bool true)], args := [d1, d2, d3, d4, d5] }
  | _ => none }
def lawS1770BVectorRow : OpenClaim := { program := "ybulkajqcfmt", sum := "7a381853aa245b0c20c991c710792ea5f7dddc68a117e931048b97c2c561177f", func := "example.com/shadowstep/shadowstep/wasm.LawS1770BVector", spec := "lawS1770BVector", stops := ["fmt.Sprintf, its operands' methods called", "fmt.errorf"], inPlace := ["fmt.Sprintf", "fmt.errorf"], unfollowed := true, recurses := true, apart := false }
/-- NO THEOREM (fmt's text is open here; it may be false): for the released tool's asking of the row's closed facts alone. THE STATEMENT IS 'LawS1770BVectorToldSaid' (YbulkajqcFmtCards.lean). -/
def LawS1770BVectorFormAsk : Prop := lawS1770BVectorRow.holds Ybaf.pinned (OpenSpec.ofChange lawS1770BVectorSpec)

/-- ITS FALSE NEIGHBOUR: 'it returns false'. Refute it at one input. -/
def lawS1770BVectorWrong : ChangeSpec := { name := "lawS1770BVector", fn := fun _ => fun
  | [d1, d2, d3, d4, d5] => { results := [.lit (.bool false)], args := [d1, d2, d3, d4, d5] }
  | _ => none }
def LawS1770BVectorWrongFormAsk : Prop := lawS1770BVectorRow.holds Ybaf.pinned (OpenSpec.ofChange lawS1770BVectorWrong)

end Rows
end Go.Proofs.YbulkajqcFmt
