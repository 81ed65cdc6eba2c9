import Derived.Test.YbulkajnyConfine
namespace Go.Proofs.Ybulkajny

/-- The writers of key k that confine lists. -/
def wOf (wrs : Nat → List Nat) (set : List Nat) (k : Nat) : List Nat := set.flatMap (fun t => ((wrs t).filter (fun x => decide (x = k))).map (fun _ => t))

/-- In the midst of confine: key k is listed anew, with l its writers so far; or it is not yet met. -/
def CI (st k : Nat) (c : CS) (l : List Nat) (met : Prop) : Prop := (c.li k = st ∧ c.wl k = l) ∨ (c.li k ≠ st ∧ l = [] ∧ ¬ met)

theorem CI.start {st k k' : Nat} {c : CS} {l : List Nat} {met : Prop} (h : CI st k c l met) : CI st k (startC st k' c) l (met ∨ k' = k) ∧ (k' = k → (startC st k' c).li k = st ∧ (startC st k' c).wl k = l) := by
  unfold startC
  by_cases e : k' = k
  · subst e
    by_cases e2 : c.li k' = st
    · rw [if_pos e2]
      rcases h with ⟨h1, h2⟩ | ⟨h1, _⟩
      · exact ⟨.inl ⟨h1, h2⟩, fun _ => ⟨h1, h2⟩⟩
      · exact absurd e2 h1
    · rw [if_neg e2]
      rcases h with ⟨h1, _⟩ | ⟨_, h2, _⟩
      · exact absurd h1 e2
      · subst h2
        have h3 : ud c.li k' st k' = st := ud_eq
        have h4 : ud c.wl k' [] k' = [] := ud_eq
        exact ⟨.inl ⟨h3, h4⟩, fun _ => ⟨h3, h4⟩⟩
  · refine ⟨?_, fun e' => absurd e' e⟩
    have key : CI st k (startC st k' c) l met := by
      unfold startC
      split
      · exact h
      · rcases h with ⟨h1, h2⟩ | ⟨h1, h2, h3⟩
        · exact .inl ⟨(ud_ne (Ne.symm e)).trans h1, (ud_ne (Ne.symm e)).trans h2⟩
        · exact .inr ⟨fun h4 => h1 ((ud_ne (Ne.symm e)).symm.trans h4), h2, h3⟩
    rcases key with h1 | ⟨h1, h2, h3⟩
    · exact .inl h1
    · exact .inr ⟨h1, h2, fun hm => hm.elim h3 e⟩

theorem CI.confR {st t k k' : Nat} {c : CS} {l : List Nat} {met : Prop} (h : CI st k c l met) : CI st k (confR st t c k') l (met ∨ k' = k) := by
  obtain ⟨h1, _⟩ := h.start (k' := k')
  exact h1
theorem CI.confW {st t k k' : Nat} {c : CS} {l : List Nat} {met : Prop} (h : CI st k c l met) : CI st k (confW st t c k') (l ++ (if k' = k then [t] else [])) (met ∨ k' = k) := by
  obtain ⟨h1, h2⟩ := h.start (k' := k')
  by_cases e : k' = k
  · rw [if_pos e]
    obtain ⟨h3, h4⟩ := h2 e
    subst e
    refine .inl ⟨h3, ?_⟩
    show ud (startC st k' c).wl k' ((startC st k' c).wl k' ++ [t]) k' = _
    rw [ud_eq, h4]
  · rw [if_neg e, List.append_nil]
    rcases h1 with ⟨h3, h4⟩ | h3
    · refine .inl ⟨h3, ?_⟩
      show ud (startC st k' c).wl k' ((startC st k' c).wl k' ++ [t]) k = l
      rw [ud_ne (Ne.symm e)]; exact h4
    · exact .inr h3
theorem CI.foldR {st t k : Nat} : ∀ (rs : List Nat) {c : CS} {l : List Nat} {met : Prop}, CI st k c l met → CI st k (rs.foldl (Ybulkajny.confR st t) c) l (met ∨ k ∈ rs)
  | [], _, _, _, h => by simpa using h
  | x :: rs, c, l, met, h => by
    have := CI.foldR (t := t) rs (h.confR (t := t) (k' := x))
    simp only [List.foldl_cons]
    have e : ((met ∨ x = k) ∨ k ∈ rs) = (met ∨ k ∈ x :: rs) := by
      rw [List.mem_cons, or_assoc, eq_comm (a := x)]
    rw [e] at this
    exact this
theorem CI.foldW {st t k : Nat} : ∀ (rs : List Nat) {c : CS} {l : List Nat} {met : Prop}, CI st k c l met → CI st k (rs.foldl (Ybulkajny.confW st t) c) (l ++ (rs.filter (fun x => decide (x = k))).map (fun _ => t)) (met ∨ k ∈ rs)
  | [], _, _, _, h => by simpa using h
  | x :: rs, c, l, met, h => by
    have := CI.foldW (t := t) rs (h.confW (t := t) (k' := x))
    simp only [List.foldl_cons]
    have e : ((met ∨ x = k) ∨ k ∈ rs) = (met ∨ k ∈ x :: rs) := by
      rw [List.mem_cons, or_assoc, eq_comm (a := x)]
    rw [e] at this
    have e2 : l ++ (if x = k then [t] else []) ++ (rs.filter (fun x => decide (x = k))).map (fun _ => t) = l ++ ((x :: rs).filter (fun x => decide (x = k))).map (fun _ => t) := by
      by_cases hx : x = k <;> simp [hx]
    rw [e2] at this
    exact this
theorem CI.all {st k : Nat} {rds wrs : Nat → List Nat} : ∀ (set : List Nat) {c : CS} {l : List Nat} {met : Prop}, CI st k c l met → CI st k (set.foldl (confT st rds wrs) c) (l ++ wOf wrs set k) (met ∨ ∃ t, t ∈ set ∧ (k ∈ rds t ∨ k ∈ wrs t))
  | [], _, _, _, h => by simpa [wOf] using h
  | t :: ts, c, l, met, h => by
    have h1 := CI.foldW (wrs t) (CI.foldR (t := t) (rds t) h) (t := t)
    have := CI.all ts (rds := rds) (wrs := wrs) h1
    simp only [List.foldl_cons]
    have e : (((met ∨ k ∈ rds t) ∨ k ∈ wrs t) ∨ ∃ t, t ∈ ts ∧ (k ∈ rds t ∨ k ∈ wrs t)) = (met ∨ ∃ t', t' ∈ t :: ts ∧ (k ∈ rds t' ∨ k ∈ wrs t')) := by
      apply propext
      simp only [List.mem_cons]
      constructor
      · rintro (((hm | hm) | hm) | ⟨t', h1, h2⟩)
        · exact .inl hm
        · exact .inr ⟨t, .inl rfl, .inl hm⟩
        · exact .inr ⟨t, .inl rfl, .inr hm⟩
        · exact .inr ⟨t', .inr h1, h2⟩
      · rintro (hm | ⟨t', (rfl | h1), h2⟩)
        · exact .inl (.inl (.inl hm))
        · rcases h2 with h2 | h2
          · exact .inl (.inl (.inr h2))
          · exact .inl (.inr h2)
        · exact .inr ⟨t', h1, h2⟩
    rw [e] at this
    have e2 : l ++ ((wrs t).filter (fun x => decide (x = k))).map (fun _ => t) ++ wOf wrs ts k = l ++ wOf wrs (t :: ts) k := by
      simp [wOf, List.flatMap_cons]
    rw [e2] at this
    exact this

/-- Behind confine: a key that is met has its writers, and the new stamp. -/
theorem conf_wl {st k : Nat} {rds wrs : Nat → List Nat} {set : List Nat} {c : CS} (h0 : c.li k ≠ st) (hm : ∃ t, t ∈ set ∧ (k ∈ rds t ∨ k ∈ wrs t)) :
    (set.foldl (confT st rds wrs) c).li k = st ∧ (set.foldl (confT st rds wrs) c).wl k = wOf wrs set k := by
  have h : CI st k c [] False := .inr ⟨h0, rfl, fun hf => hf⟩
  rcases CI.all (rds := rds) (wrs := wrs) set h with h1 | ⟨_, _, h3⟩
  · simpa using h1
  · exact absurd (.inr hm) h3
end Go.Proofs.Ybulkajny
