import Derived.Test.YbulkajnyTjLaw
namespace Go.Proofs.Ybulkajny
section
variable {n N : Nat} {succ : Nat → List Nat} {s : TS} {v : Nat}

theorem nodup_le (N : Nat) : ∀ (l : List Nat), l.Nodup → (∀ x, x ∈ l → x < N) → l.length ≤ N := by
  induction N with
  | zero =>
    intro l _ h
    cases l with
    | nil => exact Nat.le_refl _
    | cons x xs => exact absurd (h x List.mem_cons_self) (Nat.not_lt_zero _)
  | succ N ih =>
    intro l hd h
    by_cases hN : N ∈ l
    · have h1 := ih (l.erase N) (hd.erase N) (fun x hx => by
        have h2 := (hd.mem_erase_iff).1 hx
        have := h x h2.2
        have := h2.1
        omega)
      rw [List.length_erase_of_mem hN] at h1
      omega
    · have h1 := ih l hd (fun x hx => by
        have := h x hx
        have : x ≠ N := fun e => hN (e ▸ hx)
        omega)
      omega

theorem TI.seen_le (h : TI N succ s) : s.seen.length ≤ N := nodup_le N _ h.nd h.lt
theorem TI.stk_le (h : TI N succ s) : s.stk.length ≤ N := nodup_le N _ h.nodup (fun x hx => h.lt x (h.sub x hx))
theorem TI.calls_le (h : TI N succ s) : s.calls.length ≤ N := by
  have hd : (s.calls.map Prod.fst).Nodup := by
    have := h.cdec
    rw [List.Nodup, List.pairwise_map]
    exact this.imp (fun {a b} hab e => by rw [e] at hab; exact Nat.lt_irrefl _ hab)
  have := nodup_le N _ hd (fun x hx => by
    obtain ⟨f, hf, rfl⟩ := List.mem_map.1 hx
    exact h.lt _ (h.sub _ (h.csub f hf)))
  simpa using this

/-- No more is found than has been taken from the stack. -/
def FL (s : TS) : Prop := s.found.length + s.stk.length ≤ s.seen.length
theorem FL.pop (h : FL s) (hv : v ∈ s.stk) : FL (popN n s v) := by
  obtain ⟨pre, h1, h2, _⟩ := above_under v s.stk hv
  have hl := congrArg List.length h1
  unfold FL at h ⊢
  show (if 2 ≤ (compOf n v s.stk).length then sortN (compOf n v s.stk) :: s.found else s.found).length + (under v s.stk).length ≤ s.seen.length
  simp at hl
  split
  · simp; omega
  · omega
theorem FL.step (h : FL s) (hI : TI N succ s) : FL (step n succ s) := by
  cases hc : s.calls with
  | nil => rw [step_done hc]; exact h
  | cons f cs =>
    obtain ⟨v, i⟩ := f
    have hvs : v ∈ s.stk := hI.csub (v, i) (by rw [hc]; exact List.mem_cons_self)
    cases hu : (succ v)[i]? with
    | some u =>
      by_cases h0 : s.idx u = 0
      · rw [step_open hc hu h0]
        unfold FL openN at *
        simp
        omega
      · cases hon : s.on u with
        | true => rw [step_low hc hu h0 hon]; exact h
        | false => rw [step_skip hc hu h0 hon]; exact h
    | none =>
      by_cases he : lowUp s v cs v = s.idx v
      · rw [step_pop hc hu he]
        exact FL.pop (s := { s with calls := cs, low := lowUp s v cs }) h hvs
      · rw [step_back hc hu he]; exact h
end
end Go.Proofs.Ybulkajny
