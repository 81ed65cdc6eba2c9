/-
  No cell of these rows narrows 'for every input' (looked for: loops, veiled, ifaces, maps, wideKeys, modest, calm, conditions, laid).
  DERIVED. THE GIVEN ROWS OF THIS SEAT. 2 by the template 'for every input the law returns true; each argument reads behind the call as it read before'; 0 by the template 'total and deterministic' (their statements: YbulkajnyFmtTotals.lean).
  GIVEN WITH THE SEED: the statements are not yours to turn. If you find one false, say at which input.
  Laid BY PROGRAM, IN A SANDBOX (cutbox-rows.mjs): the forced cells as the released guide's own fill.sh prints them over the translation 4f585e4cff96c315… (all of the seat's roots in one cut). By AI agents, Wed Nov 11 2026. No macro, syntax, notation, axiom, sorry.
-/
import Derived.Test.YbulkajnyFmtChecked
import GoSem.Claim
import GoSem.ClaimJoined
import GoSem.ClaimMapViews
import Derived.JoinedTies
import Derived.KernelRfl
namespace Go.Proofs.YbulkajnyFmt
/- THE CELL 'sum', in the pinned program and in every row, IS THE sha256 OF THE DUMP (.gsa) THAT YbulkajnyFmtProg.lean LOADS. Nothing in Lean hashes anything: it is a label: what it is worth is what the hold of that sum in a sandbox is worth. -/
noncomputable def Ybaf.pinned : Pinned := { name := "ybulkajnyfmt", sum := "4f585e4cff96c31512edd310535cfc8301867bda5ab746a746274131f181352b", checked := Ybaf.checked }
namespace Rows
def none {H : Type} : Left H := { results := [], args := [] }

/-- 'interlace.LawS1766CRange': WHATEVER THE INPUT: true; the input reads as it did. -/
def lawS1766CRangeSpec : ChangeSpec := { name := "lawS1766CRange", fn := fun _ => fun
  | [d] => { results := [.lit (.bool true)], args := [d] }
  | _ => none }
def lawS1766CRangeRow : OpenClaim := { program := "ybulkajnyfmt", sum := "4f585e4cff96c31512edd310535cfc8301867bda5ab746a746274131f181352b", func := "example.com/interlace/interlace.LawS1766CRange", spec := "lawS1766CRange", stops := ["fmt.errorf"], inPlace := ["fmt.errorf"], apart := false }
/-- NO THEOREM (fmt's text is open here; it may be false): for the released tool's asking of the row's closed facts alone. THE STATEMENT IS 'LawS1766CRangeToldSaid' (YbulkajnyFmtCards.lean). -/
def LawS1766CRangeFormAsk : Prop := lawS1766CRangeRow.holds Ybaf.pinned (OpenSpec.ofChange lawS1766CRangeSpec)

/-- ITS FALSE NEIGHBOUR: 'it returns false'. Refute it at one input. -/
def lawS1766CRangeWrong : ChangeSpec := { name := "lawS1766CRange", fn := fun _ => fun
  | [d] => { results := [.lit (.bool false)], args := [d] }
  | _ => none }
def LawS1766CRangeWrongFormAsk : Prop := lawS1766CRangeRow.holds Ybaf.pinned (OpenSpec.ofChange lawS1766CRangeWrong)

/-- 'interlace.LawS1766CEdges': WHATEVER THE INPUT: true; the input reads as it did. -/
def lawS1766CEdgesSpec : ChangeSpec := { name := "lawS1766CEdges", fn := fun _ => fun
  | [d] => { results := [.lit (.bool true)], args := [d] }
  | _ => none }
def lawS1766CEdgesRow : OpenClaim := { program := "ybulkajnyfmt", sum := "4f585e4cff96c31512edd310535cfc8301867bda5ab746a746274131f181352b", func := "example.com/interlace/interlace.LawS1766CEdges", spec := "lawS1766CEdges", stops := ["fmt.errorf"], inPlace := ["fmt.errorf"], apart := false }
/-- NO THEOREM (fmt's text is open here; it may be false): for the released tool's asking of the row's closed facts alone. THE STATEMENT IS 'LawS1766CEdgesToldSaid' (YbulkajnyFmtCards.lean). -/
def LawS1766CEdgesFormAsk : Prop := lawS1766CEdgesRow.holds Ybaf.pinned (OpenSpec.ofChange lawS1766CEdgesSpec)

/-- ITS FALSE NEIGHBOUR: 'it returns false'. Refute it at one input. -/
def lawS1766CEdgesWrong : ChangeSpec := { name := "lawS1766CEdges", fn := fun _ => fun
  | [d] => { results := [.lit (.bool false)], args := [d] }
  | _ => none }
def LawS1766CEdgesWrongFormAsk : Prop := lawS1766CEdgesRow.holds Ybaf.pinned (OpenSpec.ofChange lawS1766CEdgesWrong)

end Rows
end Go.Proofs.YbulkajnyFmt
