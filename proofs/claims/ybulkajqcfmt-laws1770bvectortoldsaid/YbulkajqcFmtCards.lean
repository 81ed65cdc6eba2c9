/-
  DERIVED. GIVEN WITH THE SEED: THE CARDS: each row of YbulkajqcFmtRows.lean that lists a variable, with what it lists TIED to the program's text (the seventh form; the later family's looks); each row that meets fmt, with fmt's text TOLD by the authors' own Lean function (tested against real Go, not proved from fmt's source: count such statements apart). THE CARD IS WHAT COUNTS. Prove the row's statement (the work); the ties are given (YbulkajqcFmtTie.lean); close each card by the builder's one call (the guide's Derived/Test/ToyasCard.lean, 'card_holds'). Laid BY PROGRAM, IN A SANDBOX (cutbox-door.mjs). By AI agents, Wed Nov 11 2026. No macro, syntax, notation, axiom, sorry.
-/
import Derived.Test.YbulkajqcFmtRows
import GoSem.ClaimSeven
namespace Go.Proofs.YbulkajqcFmt
namespace Rows

/-- THE TOLD CARD OF 'wasm.LawS1770BVector'. -/
def lawS1770BVectorCard : Claim7 := { stood := { row := lawS1770BVectorRow, standIns := [], harness := (true, "2cc97a67eb666cf57b998ec7cc25dee3becb2549263adcad66be1025e9a56b87"), looks := false }, told := true, goes := false }
def LawS1770BVectorToldSaid : Prop := Claim7.holds Ybaf.pinned (.plain (OpenSpec.ofChange lawS1770BVectorSpec)) lawS1770BVectorCard
/-- ITS FALSE NEIGHBOUR. Refute it at one input. -/
def LawS1770BVectorToldWrongFalsely : Prop := Claim7.holds Ybaf.pinned (.plain (OpenSpec.ofChange lawS1770BVectorWrong)) lawS1770BVectorCard
end Rows
end Go.Proofs.YbulkajqcFmt
