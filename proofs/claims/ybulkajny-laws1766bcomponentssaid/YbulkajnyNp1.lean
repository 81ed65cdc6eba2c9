import Derived.Test.YbulkajnyNp0
namespace Go.Proofs.Ybulkajny
open Go.RowKit Go.Sort

theorem five (w : World) (a b c d e : Obj) : let W := (((((w.alloc a).alloc b).alloc c).alloc d).alloc e).drew
    W.heap[w.heap.size]? = some a ∧ W.heap[w.heap.size + 1]? = some b ∧ W.heap[w.heap.size + 1 + 1]? = some c ∧ W.heap[w.heap.size + 1 + 1 + 1]? = some d ∧ W.heap[w.heap.size + 1 + 1 + 1 + 1]? = some e ∧ Only (fun _ => False) w W := by
  have s1 : (w.alloc a).heap.size = w.heap.size + 1 := by simp
  have s2 : ((w.alloc a).alloc b).heap.size = w.heap.size + 1 + 1 := by simp
  have s3 : (((w.alloc a).alloc b).alloc c).heap.size = w.heap.size + 1 + 1 + 1 := by simp
  have s4 : ((((w.alloc a).alloc b).alloc c).alloc d).heap.size = w.heap.size + 1 + 1 + 1 + 1 := by simp
  have n1 := heap_alloc_new w a
  have n2 := heap_alloc_new (w.alloc a) b
  have n3 := heap_alloc_new ((w.alloc a).alloc b) c
  have n4 := heap_alloc_new (((w.alloc a).alloc b).alloc c) d
  have n5 := heap_alloc_new ((((w.alloc a).alloc b).alloc c).alloc d) e
  rw [s1] at n2
  rw [s2] at n3
  rw [s3] at n4
  rw [s4] at n5
  refine ⟨?_, ?_, ?_, ?_, n5, ((((only_alloc w a).trans (only_alloc _ b)).trans (only_alloc _ c)).trans (only_alloc _ d)).trans ((only_alloc _ e).trans (only_drew _))⟩
  · show ((((((w.alloc a).alloc b).alloc c).alloc d).alloc e)).heap[w.heap.size]? = some a
    rw [heap_alloc_old _ _ (by omega), heap_alloc_old _ _ (by omega), heap_alloc_old _ _ (by omega), heap_alloc_old _ _ (by omega)]; exact n1
  · show ((((((w.alloc a).alloc b).alloc c).alloc d).alloc e)).heap[w.heap.size + 1]? = some b
    rw [heap_alloc_old _ _ (by omega), heap_alloc_old _ _ (by omega), heap_alloc_old _ _ (by omega)]; exact n2
  · show ((((((w.alloc a).alloc b).alloc c).alloc d).alloc e)).heap[w.heap.size + 1 + 1]? = some c
    rw [heap_alloc_old _ _ (by omega), heap_alloc_old _ _ (by omega)]; exact n3
  · show ((((((w.alloc a).alloc b).alloc c).alloc d).alloc e)).heap[w.heap.size + 1 + 1 + 1]? = some d
    rw [heap_alloc_old _ _ (by omega)]; exact n4
end Go.Proofs.Ybulkajny
