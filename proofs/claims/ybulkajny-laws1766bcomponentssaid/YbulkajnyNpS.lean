import Derived.Test.YbulkajnyNp1
namespace Go.Proofs.Ybulkajny
open Go.RowKit Go.Sort Go.Maps

/-- The captured variables, just made. -/
theorem cap_start {w0 w : World} {R : Nat → Row} (h : Fam w0 w R none) : ∃ R' x, Fam w0 ((((w.alloc (.cells #[.slice none 0 0] 22)).alloc (.cells #[.slice none 0 0] 22)).alloc (.map #[] 0)).alloc (.cells #[.map (some (w.heap.size + 1 + 1))] 71)) R' (some (w.heap.size + 1 + 1, .map #[] 0)) ∧
    Cap R' x (w.heap.size + 1 + 1) [] [] ∧ x 43 = w.heap.size ∧ x 44 = w.heap.size + 1 ∧ x 42 = w.heap.size + 1 + 1 + 1 ∧ Ids ((((w.alloc (.cells #[.slice none 0 0] 22)).alloc (.cells #[.slice none 0 0] 22)).alloc (.map #[] 0)).alloc (.cells #[.map (some (w.heap.size + 1 + 1))] 71)) (w.heap.size + 1 + 1) [] (.map []) ∧ ∀ i, ¬ (42 ≤ i ∧ i ≤ 46) → R' i = R i := by
  have s1 : (w.alloc (.cells #[.slice none 0 0] 22)).heap.size = w.heap.size + 1 := by simp
  have s2 : ((w.alloc (.cells #[.slice none 0 0] 22)).alloc (.cells #[.slice none 0 0] 22)).heap.size = w.heap.size + 1 + 1 := by simp
  have s3 : (((w.alloc (.cells #[.slice none 0 0] 22)).alloc (.cells #[.slice none 0 0] 22)).alloc (.map #[] 0)).heap.size = w.heap.size + 1 + 1 + 1 := by simp
  have a1 := h.make (i := 43) #[.slice none 0 0] 22 1 1 rfl (by unfold maxLen; omega)
  have a2 := a1.make (i := 44) #[.slice none 0 0] 22 1 1 rfl (by unfold maxLen; omega)
  have a3 := a2.lay (.map #[] 0)
  have a4 := a3.make (i := 42) #[.map (some (w.heap.size + 1 + 1))] 71 1 1 rfl (by unfold maxLen; omega)
  have a5 := (a4.turn 45 ⟨none, 0, 21, 1, 0, []⟩ (Only.refl _ _) ⟨by simp, .inl ⟨rfl, rfl⟩⟩ (fun c hc => by cases hc)).turn 46 ⟨none, 0, 21, 1, 0, []⟩ (Only.refl _ _) ⟨by simp, .inl ⟨rfl, rfl⟩⟩ (fun c hc => by cases hc)
  rw [s1, s2, s3] at a5
  have own := World.ownsMap_made ((w.alloc (.cells #[.slice none 0 0] 22)).alloc (.cells #[.slice none 0 0] 22)) Yba.prog 9 (plainElem (H := Unit) Yba.prog 21)
  rw [s2] at own
  refine ⟨_, fun i => if i = 43 then w.heap.size else if i = 44 then w.heap.size + 1 else w.heap.size + 1 + 1 + 1, a5, ⟨?_, ?_, ?_, ⟨none, 0, ?_⟩, ⟨none, 0, ?_⟩⟩, rfl, rfl, rfl, ⟨own.alloc _, rfl, fun y _ => (by simp [Maps.has]), fun i y hi => (by simp at hi), List.nodup_nil, fun y hy => (by cases hy)⟩, fun i hi => ?_⟩
  · rw [put_ne (by omega), put_ne (by omega), put_eq]; rfl
  · rw [put_ne (by omega), put_ne (by omega), put_ne (by omega), put_ne (by omega), put_eq, put_ne (by omega), put_eq]; rfl
  · rw [put_ne (by omega), put_ne (by omega), put_ne (by omega), put_eq, put_eq]; rfl
  · rw [put_ne (by omega), put_eq]; rfl
  · rw [put_eq]; rfl
  · rw [put_ne (by omega), put_ne (by omega), put_ne (by omega), put_ne (by omega), put_ne (by omega)]
end Go.Proofs.Ybulkajny
