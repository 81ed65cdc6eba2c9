import Derived.Test.YbulkajnyBuildS
namespace Go.Proofs.Ybulkajny
open Go.RowKit Go.Sort
set_option linter.unusedVariables false

/-- The closure's rows: the first m of them are made. -/
def Fk (w0 w : World) (R0 : Nat → Row) (n B m : Nat) (F : Nat → Nat → Bool) : Prop :=
  ∃ R, Fam w0 w R none ∧ R 72 = ⟨some B, n, 36, 1, n, tab n (fun i => if i < m then (R (1000 + i)).val else .slice none 0 0)⟩ ∧ (∀ i, i < m → ∃ g, R (1000 + i) = ⟨some g, n, 4, 1, n, tab n (fun j => .bool (F i j))⟩) ∧ ∀ i, i ≠ 72 → ¬ (1000 ≤ i ∧ i < 2000) → R i = R0 i

section
variable {w0 w w' : World} {R0 : Nat → Row} {n B m : Nat} {F F' : Nat → Nat → Bool}
theorem Fk.only0 (h : Fk w0 w R0 n B m F) (ho : Only (fun _ => False) w w') : Fk w0 w' R0 n B m F := by
  obtain ⟨R, h, r⟩ := h
  exact ⟨R, h.only0 ho, r⟩
theorem Fk.congr (h : Fk w0 w R0 n B m F) (he : ∀ i j, i < m → j < n → F i j = F' i j) : Fk w0 w R0 n B m F' := by
  obtain ⟨R, h, h72, hr, hR⟩ := h
  refine ⟨R, h, h72, fun i hi => ?_, hR⟩
  obtain ⟨g, hg⟩ := hr i hi
  exact ⟨g, by rw [hg]; simp only [Row.mk.injEq, true_and]; exact tab_congr (fun j hj => by rw [he i j hi hj])⟩
theorem Fk.cell0 (h : Fk w0 w R0 n B m F) {i d j : Nat} {v : Value} (h1 : i ≠ 72) (h2 : i < 1000) (hc : (R0 i).blk = some d) (hj : (R0 i).xs[j]? = some v) : w.cell? ⟨d, j, none⟩ = some v := by
  obtain ⟨R, h, _, _, hR⟩ := h
  exact h.cell (i := i) (by rw [hR i h1 (by omega)]; exact hc) (by rw [hR i h1 (by omega)]; exact hj)
theorem Fk.fam (h : Fk w0 w R0 n B m F) : ∃ R, Fam w0 w R none ∧ ∀ i, i ≠ 72 → ¬ (1000 ≤ i ∧ i < 2000) → R i = R0 i := by
  obtain ⟨R, h, _, _, hR⟩ := h
  exact ⟨R, h, hR⟩
/-- The rows' beginning. -/
theorem Fk.start {R : Nat → Row} (h : Fam w0 w R none) (hn : n ≤ 64) : Fk w0 (w.alloc (.cells (madeCells #[.slice none 0 0] n) 36)) R n w.heap.size 0 F := by
  have h1 := h.make (i := 72) (madeCells #[.slice none 0 0] n) 36 1 n (by simp [madeCells]) (by unfold maxLen; omega)
  refine ⟨_, h1, ?_, fun i hi => absurd hi (Nat.not_lt_zero _), fun i h1 h2 => put_ne h1⟩
  rw [put_eq, made_toList]
  simp only [Row.mk.injEq, true_and]
  exact tab_congr (fun j _ => by simp [Nat.mod_one])
/-- One row more. -/
theorem Fk.more (h : Fk w0 w R0 n B m F) (hm : m < n) (hn : n ≤ 64) : (∃ u, (w.alloc (.cells (madeCells #[.bool false] n) 4)).cell? ⟨B, m, none⟩ = some u) ∧ (w.alloc (.cells (madeCells #[.bool false] n) 4)).frozen? ⟨B, m, none⟩ = false ∧
    Fk w0 ((w.alloc (.cells (madeCells #[.bool false] n) 4)).setCell ⟨B, m, none⟩ (.slice (some ⟨w.heap.size, 0, none⟩) n n)) R0 n B (m + 1) (fun i j => if i < m then F i j else false) := by
  obtain ⟨R, h, h72, hr, hR⟩ := h
  have h1 := h.make (i := 1000 + m) (madeCells #[.bool false] n) 4 1 n (by simp [madeCells]) (by unfold maxLen; omega)
  have e72 : put R (1000 + m) ⟨some w.heap.size, n, 4, 1, n, (madeCells #[.bool false] n).toList⟩ 72 = R 72 := put_ne (by omega)
  have h2 := h1.set (i := 72) (b := B) (j := m) (v := .slice (some ⟨w.heap.size, 0, none⟩) n n) (by rw [e72, h72])
  refine ⟨⟨_, h1.cell (i := 72) (by rw [e72, h72]) (by rw [e72, h72]; exact tab_get hm)⟩, h1.free (i := 72) (by rw [e72, h72]) m, _, h2, ?_, fun i hi => ?_, fun i h1 h2 => ?_⟩
  · rw [put_eq, e72, h72]
    simp only [Row.mk.injEq, true_and]
    refine tab_set ?_ (fun i hi => ?_)
    · rw [if_pos (by omega), put_ne (by omega), put_eq]; rfl
    · by_cases hlt : i < m
      · rw [if_pos (by omega), if_pos hlt, put_ne (by omega), put_ne (by omega)]
      · rw [if_neg (by omega), if_neg hlt]
  · rw [put_ne (by omega)]
    by_cases e : i = m
    · subst e
      refine ⟨w.heap.size, ?_⟩
      rw [put_eq, made_toList]
      simp only [Row.mk.injEq, true_and]
      exact tab_congr (fun j _ => by simp [Nat.mod_one])
    · rw [put_ne (by omega)]
      obtain ⟨g, hg⟩ := hr i (by omega)
      exact ⟨g, by rw [hg]; simp only [Row.mk.injEq, true_and]; exact tab_congr (fun j hj => by rw [if_pos (by omega)])⟩
  · rw [put_ne h1, put_ne (by omega)]; exact hR i h1 h2
def ud2 (F : Nat → Nat → Bool) (i j : Nat) (v : Bool) : Nat → Nat → Bool := fun a b => if a = i ∧ b = j then v else F a b
/-- One cell of the closure, read and set. -/
theorem Fk.at_ (h : Fk w0 w R0 n B m F) (hmn : m ≤ n) (hn : n ≤ 64) {i j : Nat} (hi : i < m) (hj : j < n) : ∃ g, w.cell? ⟨B, i, none⟩ = some (.slice (some ⟨g, 0, none⟩) n n) ∧ w.cell? ⟨g, j, none⟩ = some (.bool (F i j)) ∧ w.frozen? ⟨g, j, none⟩ = false ∧ B ≠ g ∧ (∀ j', j' < n → w.cell? ⟨g, j', none⟩ = some (.bool (F i j'))) ∧
    (∀ i' d, i' ≠ 72 → i' < 1000 → (R0 i').blk = some d → g ≠ d) ∧
    ∀ v, Fk w0 (w.setCell ⟨g, j, none⟩ (.bool v)) R0 n B m (ud2 F i j v) := by
  obtain ⟨R, h, h72, hr, hR⟩ := h
  obtain ⟨g, hg⟩ := hr i hi
  have hall : ∀ j', j' < n → w.cell? ⟨g, j', none⟩ = some (.bool (F i j')) := fun j' hj' => h.cell (i := 1000 + i) (by rw [hg]) (by rw [hg]; exact tab_get hj')
  refine ⟨g, ?_, hall j hj, h.free (i := 1000 + i) (by rw [hg]) j, h.ne (i := 72) (j := 1000 + i) (by rw [h72]) (by rw [hg]) (by omega), hall, fun i' d q1 q2 q3 => h.ne (i := 1000 + i) (j := i') (by rw [hg]) (by rw [hR i' q1 (by omega)]; exact q3) (by omega), fun v => ?_⟩
  · have := h.cell (i := 72) (b := B) (j := i) (v := (R (1000 + i)).val) (by rw [h72]) (by rw [h72]; show (tab n _)[i]? = _; rw [tab_get (by omega), if_pos hi])
    rw [hg] at this
    exact this
  · have hs := h.set (i := 1000 + i) (b := g) (j := j) (v := .bool v) (by rw [hg])
    rw [hg] at hs
    refine ⟨_, hs, ?_, fun i' hi' => ?_, fun i' q1 q2 => ?_⟩
    · rw [put_ne (by omega), h72]
      simp only [Row.mk.injEq, true_and]
      refine tab_congr (fun a _ => ?_)
      by_cases ha : a < m
      · rw [if_pos ha, if_pos ha]
        by_cases e : a = i
        · subst e; rw [put_eq, hg]; rfl
        · rw [put_ne (by omega)]
      · rw [if_neg ha, if_neg ha]
    · by_cases e : i' = i
      · subst e
        refine ⟨g, ?_⟩
        rw [put_eq]
        simp only [Row.mk.injEq, true_and]
        exact tab_set (by simp [ud2]) (fun a ha => by simp [ud2, ha])
      · rw [put_ne (by omega)]
        obtain ⟨g', hg'⟩ := hr i' hi'
        exact ⟨g', by rw [hg']; simp only [Row.mk.injEq, true_and]; exact tab_congr (fun a _ => by simp [ud2, e])⟩
    · rw [put_ne (by omega)]; exact hR i' q1 q2
end
end Go.Proofs.Ybulkajny
