/-
  No cell of these rows narrows 'for every input' (looked for: loops, veiled, ifaces, maps, wideKeys, modest, calm, conditions, laid).
  DERIVED. THE GIVEN ROWS OF THIS SEAT. 4 by the template 'for every input the law returns true; each argument reads behind the call as it read before'; 0 by the template 'total and deterministic' (their statements: YbulkajnyTotals.lean).
  GIVEN WITH THE SEED: the statements are not yours to turn. If you find one false, say at which input.
  Laid BY PROGRAM, IN A SANDBOX (cutbox-rows.mjs): the forced cells as the released guide's own fill.sh prints them over the translation 9ca6ca65de0d2761… (all of the seat's roots in one cut). By AI agents, Wed Nov 11 2026. No macro, syntax, notation, axiom, sorry.
-/
import Derived.Test.YbulkajnyChecked
import GoSem.Claim
import GoSem.ClaimJoined
import GoSem.ClaimMapViews
import Derived.JoinedTies
import Derived.KernelRfl
namespace Go.Proofs.Ybulkajny
/- THE CELL 'sum', in the pinned program and in every row, IS THE sha256 OF THE DUMP (.gsa) THAT YbulkajnyProg.lean LOADS. Nothing in Lean hashes anything: it is a label: what it is worth is what the hold of that sum in a sandbox is worth. -/
noncomputable def Yba.pinned : Pinned := { name := "ybulkajny", sum := "9ca6ca65de0d2761ce88c014f975ca72bfd878abfb4ad62618e4eb60636cf3c4", checked := Yba.checked }
namespace Rows
def none {H : Type} : Left H := { results := [], args := [] }

/-- 'interlace.LawS1766APopLast': WHATEVER THE INPUT: true; the input reads as it did. -/
def lawS1766APopLastSpec : ChangeSpec := { name := "lawS1766APopLast", fn := fun _ => fun
  | [d] => { results := [.lit (.bool true)], args := [d] }
  | _ => none }
def lawS1766APopLastRow : OpenClaim := { program := "ybulkajny", sum := "9ca6ca65de0d2761ce88c014f975ca72bfd878abfb4ad62618e4eb60636cf3c4", func := "example.com/interlace/interlace.LawS1766APopLast", spec := "lawS1766APopLast", apart := false }
def LawS1766APopLastSaid : Prop := lawS1766APopLastRow.holds Yba.pinned (OpenSpec.ofChange lawS1766APopLastSpec)

/-- ITS FALSE NEIGHBOUR: 'it returns false'. Refute it at one input. -/
def lawS1766APopLastWrong : ChangeSpec := { name := "lawS1766APopLast", fn := fun _ => fun
  | [d] => { results := [.lit (.bool false)], args := [d] }
  | _ => none }
def LawS1766APopLastWrongFalsely : Prop := lawS1766APopLastRow.holds Yba.pinned (OpenSpec.ofChange lawS1766APopLastWrong)

/-- 'interlace.LawS1766AHeapSort': WHATEVER THE INPUT: true; the input reads as it did. -/
def lawS1766AHeapSortSpec : ChangeSpec := { name := "lawS1766AHeapSort", fn := fun _ => fun
  | [d] => { results := [.lit (.bool true)], args := [d] }
  | _ => none }
def lawS1766AHeapSortRow : OpenClaim := { program := "ybulkajny", sum := "9ca6ca65de0d2761ce88c014f975ca72bfd878abfb4ad62618e4eb60636cf3c4", func := "example.com/interlace/interlace.LawS1766AHeapSort", spec := "lawS1766AHeapSort", unfollowed := true, recurses := true, apart := false }
def LawS1766AHeapSortSaid : Prop := lawS1766AHeapSortRow.holds Yba.pinned (OpenSpec.ofChange lawS1766AHeapSortSpec)

/-- ITS FALSE NEIGHBOUR: 'it returns false'. Refute it at one input. -/
def lawS1766AHeapSortWrong : ChangeSpec := { name := "lawS1766AHeapSort", fn := fun _ => fun
  | [d] => { results := [.lit (.bool false)], args := [d] }
  | _ => none }
def LawS1766AHeapSortWrongFalsely : Prop := lawS1766AHeapSortRow.holds Yba.pinned (OpenSpec.ofChange lawS1766AHeapSortWrong)

/-- 'interlace.LawS1766BComponents': WHATEVER THE INPUT: true; the input reads as it did. -/
def lawS1766BComponentsSpec : ChangeSpec := { name := "lawS1766BComponents", fn := fun _ => fun
  | [d] => { results := [.lit (.bool true)], args := [d] }
  | _ => none }
def lawS1766BComponentsRow : OpenClaim := { program := "ybulkajny", sum := "9ca6ca65de0d2761ce88c014f975ca72bfd878abfb4ad62618e4eb60636cf3c4", func := "example.com/interlace/interlace.LawS1766BComponents", spec := "lawS1766BComponents", unfollowed := true, recurses := true, apart := false }
def LawS1766BComponentsSaid : Prop := lawS1766BComponentsRow.holds Yba.pinned (OpenSpec.ofChange lawS1766BComponentsSpec)

/-- ITS FALSE NEIGHBOUR: 'it returns false'. Refute it at one input. -/
def lawS1766BComponentsWrong : ChangeSpec := { name := "lawS1766BComponents", fn := fun _ => fun
  | [d] => { results := [.lit (.bool false)], args := [d] }
  | _ => none }
def LawS1766BComponentsWrongFalsely : Prop := lawS1766BComponentsRow.holds Yba.pinned (OpenSpec.ofChange lawS1766BComponentsWrong)

/-- 'interlace.LawS1766BRepeatClean': WHATEVER THE INPUT: true; the input reads as it did. -/
def lawS1766BRepeatCleanSpec : ChangeSpec := { name := "lawS1766BRepeatClean", fn := fun _ => fun
  | [d] => { results := [.lit (.bool true)], args := [d] }
  | _ => none }
def lawS1766BRepeatCleanRow : OpenClaim := { program := "ybulkajny", sum := "9ca6ca65de0d2761ce88c014f975ca72bfd878abfb4ad62618e4eb60636cf3c4", func := "example.com/interlace/interlace.LawS1766BRepeatClean", spec := "lawS1766BRepeatClean", unfollowed := true, recurses := true, apart := false }
def LawS1766BRepeatCleanSaid : Prop := lawS1766BRepeatCleanRow.holds Yba.pinned (OpenSpec.ofChange lawS1766BRepeatCleanSpec)

/-- ITS FALSE NEIGHBOUR: 'it returns false'. Refute it at one input. -/
def lawS1766BRepeatCleanWrong : ChangeSpec := { name := "lawS1766BRepeatClean", fn := fun _ => fun
  | [d] => { results := [.lit (.bool false)], args := [d] }
  | _ => none }
def LawS1766BRepeatCleanWrongFalsely : Prop := lawS1766BRepeatCleanRow.holds Yba.pinned (OpenSpec.ofChange lawS1766BRepeatCleanWrong)

end Rows
end Go.Proofs.Ybulkajny
