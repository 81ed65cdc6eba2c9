namespace Go.Proofs.Ybulkajny

/-- rs are the ids, by ks, of the codes that l holds. -/
structure Spec (ks l rs : List Nat) : Prop where
  met : ∀ x, x ∈ l → x % 4 ∈ ks
  iff : ∀ k, k ∈ rs ↔ ∃ x, x ∈ l ∧ ks[k]? = some (x % 4)
theorem Spec.nil (ks : List Nat) : Spec ks [] [] := ⟨fun x hx => by (cases hx), fun k => by simp⟩
theorem Spec.lt {ks l rs : List Nat} (h : Spec ks l rs) {k : Nat} (hk : k ∈ rs) : k < ks.length := by
  obtain ⟨x, _, hx⟩ := (h.iff k).1 hk
  exact (List.getElem?_eq_some_iff.1 hx).1
theorem Spec.grow {ks l rs : List Nat} {y : Nat} (h : Spec ks l rs) (hy : y ∉ ks) : Spec (ks ++ [y]) l rs := by
  refine ⟨fun x hx => List.mem_append_left _ (h.met x hx), fun k => ?_⟩
  rw [h.iff k]
  constructor
  · rintro ⟨x, hx, hk⟩
    have hlt := (List.getElem?_eq_some_iff.1 hk).1
    exact ⟨x, hx, by rw [List.getElem?_append_left hlt]; exact hk⟩
  · rintro ⟨x, hx, hk⟩
    by_cases hlt : k < ks.length
    · rw [List.getElem?_append_left hlt] at hk
      exact ⟨x, hx, hk⟩
    · rw [List.getElem?_append_right (by omega)] at hk
      have h0 : k - ks.length = 0 := by
        have := (List.getElem?_eq_some_iff.1 hk).1
        simp at this
        omega
      rw [h0] at hk
      simp at hk
      exact absurd (hk ▸ h.met x hx) hy
/-- One element more, whose id is k: it is put down unless it is there. -/
theorem Spec.snoc {ks l rs : List Nat} {x k : Nat} (h : Spec ks l rs) (hd : ks.Nodup) (hk : ks[k]? = some (x % 4)) (rs' : List Nat) (hrs : ∀ j, j ∈ rs' ↔ (j ∈ rs ∨ j = k)) : Spec ks (l ++ [x]) rs' := by
  refine ⟨fun y hy => ?_, fun j => ?_⟩
  · rcases List.mem_append.1 hy with hy | hy
    · exact h.met y hy
    · have : y = x := by simpa using hy
      rw [this]; exact List.mem_of_getElem? hk
  · rw [hrs j, h.iff j]
    constructor
    · rintro (⟨y, hy, hj⟩ | rfl)
      · exact ⟨y, List.mem_append_left _ hy, hj⟩
      · exact ⟨x, by simp, hk⟩
    · rintro ⟨y, hy, hj⟩
      rcases List.mem_append.1 hy with hy | hy
      · exact .inl ⟨y, hy, hj⟩
      · have : y = x := by simpa using hy
        subst this
        right
        obtain ⟨h1, h2⟩ := List.getElem?_eq_some_iff.1 hj
        obtain ⟨h3, h4⟩ := List.getElem?_eq_some_iff.1 hk
        have e1 := hd.idxOf_getElem j h1
        have e2 := hd.idxOf_getElem k h3
        rw [h2] at e1
        rw [h4] at e2
        exact e1.symm.trans e2
end Go.Proofs.Ybulkajny
