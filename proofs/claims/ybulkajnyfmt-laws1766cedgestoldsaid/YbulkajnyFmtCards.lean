/-
  DERIVED. GIVEN WITH THE SEED: THE CARDS: each row of YbulkajnyFmtRows.lean that lists a variable, with what it lists TIED to the program's text (the seventh form; the later family's looks); each row that meets fmt, with fmt's text TOLD by the authors' own Lean function (tested against real Go, not proved from fmt's source: count such statements apart). THE CARD IS WHAT COUNTS. Prove the row's statement (the work); the ties are given (YbulkajnyFmtTie.lean); close each card by the builder's one call (the guide's Derived/Test/ToyasCard.lean, 'card_holds'). Laid BY PROGRAM, IN A SANDBOX (cutbox-door.mjs). By AI agents, Wed Nov 11 2026. No macro, syntax, notation, axiom, sorry.
-/
import Derived.Test.YbulkajnyFmtRows
import GoSem.ClaimSeven
namespace Go.Proofs.YbulkajnyFmt
namespace Rows

/-- THE TOLD CARD OF 'interlace.LawS1766CRange'. -/
def lawS1766CRangeCard : Claim7 := { stood := { row := lawS1766CRangeRow, standIns := [], harness := (true, "c43fbea20b2d537f88f7ebc96459e48572b5d1e63c8faaeb73e61adc4bf2dda1"), looks := false }, told := true, goes := false }
def LawS1766CRangeToldSaid : Prop := Claim7.holds Ybaf.pinned (.plain (OpenSpec.ofChange lawS1766CRangeSpec)) lawS1766CRangeCard
/-- ITS FALSE NEIGHBOUR. Refute it at one input. -/
def LawS1766CRangeToldWrongFalsely : Prop := Claim7.holds Ybaf.pinned (.plain (OpenSpec.ofChange lawS1766CRangeWrong)) lawS1766CRangeCard

/-- THE TOLD CARD OF 'interlace.LawS1766CEdges'. -/
def lawS1766CEdgesCard : Claim7 := { stood := { row := lawS1766CEdgesRow, standIns := [], harness := (true, "c43fbea20b2d537f88f7ebc96459e48572b5d1e63c8faaeb73e61adc4bf2dda1"), looks := false }, told := true, goes := false }
def LawS1766CEdgesToldSaid : Prop := Claim7.holds Ybaf.pinned (.plain (OpenSpec.ofChange lawS1766CEdgesSpec)) lawS1766CEdgesCard
/-- ITS FALSE NEIGHBOUR. Refute it at one input. -/
def LawS1766CEdgesToldWrongFalsely : Prop := Claim7.holds Ybaf.pinned (.plain (OpenSpec.ofChange lawS1766CEdgesWrong)) lawS1766CEdgesCard
end Rows
end Go.Proofs.YbulkajnyFmt
