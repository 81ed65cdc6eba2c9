import Derived.Test.YbulkajnyTjLen
namespace Go.Proofs.Ybulkajny

section
variable {n N : Nat} {succ : Nat → List Nat} {s : TS} {P : TS → Prop}
theorem iter_ind (hbd : ∀ v, v < N → ∀ u, u ∈ succ v → u < N) (hstep : ∀ s, TI N succ s → s.calls ≠ [] → P s → P (step n succ s)) : ∀ (k : Nat) (s : TS), TI N succ s → (s.calls = [] → Clean N succ s) → P s → ((iter n succ k s).calls = [] → Clean N succ (iter n succ k s)) ∧ P (iter n succ k s)
  | 0, s, _, hc, hP => ⟨hc, hP⟩
  | k + 1, s, hI, hc, hP => by
    by_cases h0 : s.calls = []
    · rw [iter_done _ h0]; exact ⟨hc, hP⟩
    · obtain ⟨h1, h2, _⟩ := hI.step (n := n) hbd h0
      exact iter_ind hbd hstep k (step n succ s) h1 h2 (hstep s hI h0 hP)

/-- What each opening and each round keeps holds at the end. -/
theorem Outer.ind (hbd : ∀ v, v < N → ∀ u, u ∈ succ v → u < N) (hopen : ∀ s r, Clean N succ s → s.idx r = 0 → r < N → P s → P (openN s r)) (hstep : ∀ s, TI N succ s → s.calls ≠ [] → P s → P (step n succ s)) : ∀ (l : List Nat) (s s' : TS), (∀ r, r ∈ l → r < N) → Clean N succ s → P s → Outer n succ l s s' → Clean N succ s' ∧ P s'
  | [], s, s', _, hC, hP, hO => by
    rw [show s' = s from hO]; exact ⟨hC, hP⟩
  | r :: rs, s, s', hl, hC, hP, hO => by
    obtain ⟨m, hp, hO⟩ := hO
    have hm : Clean N succ m ∧ P m := by
      rcases hp with ⟨_, rfl⟩ | ⟨h0, k, hk, hc⟩
      · exact ⟨hC, hP⟩
      · have hr := hl r List.mem_cons_self
        have hI := hC.toTI.open hr h0 (fun _ => hC.s0)
        obtain ⟨h1, h2⟩ := iter_ind hbd hstep k (openN s r) hI (fun e => by cases e) (hopen s r hC h0 hr hP)
        rw [hk] at h1 h2
        exact ⟨h1 hc, h2⟩
    exact Outer.ind hbd hopen hstep rs m s' (fun x hx => hl x (List.mem_cons_of_mem _ hx)) hm.1 hm.2 hO

theorem sortN_length (l : List Nat) : (sortN l).length = l.length := by unfold sortN; simp
theorem above_length (v : Nat) (l : List Nat) : (above v l).length ≤ l.length := by
  induction l with
  | nil => exact Nat.le_refl _
  | cons x xs ih =>
    unfold above
    split
    · simp
    · simp; exact ih
theorem found_len (hbd : ∀ v, v < N → ∀ u, u ∈ succ v → u < N) {l : List Nat} {s' : TS} (hl : ∀ r, r ∈ l → r < N) (hO : Outer n succ l init s') : ∀ c, c ∈ s'.found → c.length ≤ N := by
  refine (Outer.ind (P := fun s => ∀ c, c ∈ s.found → c.length ≤ N) hbd (fun s r _ _ _ h => h) (fun s hI hne h => ?_) l init s' hl Clean.init (fun c hc => by cases hc) hO).2
  obtain ⟨⟨v, i⟩, cs, hc⟩ := List.exists_cons_of_ne_nil hne
  cases hu : (succ v)[i]? with
  | some u =>
    by_cases h0 : s.idx u = 0
    · rw [step_open hc hu h0]; exact h
    · cases hon : s.on u with
      | true => rw [step_low hc hu h0 hon]; exact h
      | false => rw [step_skip hc hu h0 hon]; exact h
  | none =>
    by_cases he : lowUp s v cs v = s.idx v
    · rw [step_pop hc hu he]
      intro c hcm
      have hcm : c ∈ (if 2 ≤ (compOf n v s.stk).length then sortN (compOf n v s.stk) :: s.found else s.found) := hcm
      split at hcm
      · rcases List.mem_cons.1 hcm with rfl | hcm
        · rw [sortN_length]
          have h1 := List.length_filter_le (fun x => decide (x < n)) (above v s.stk)
          have h2 := above_length v s.stk
          have h3 := hI.stk_le
          unfold compOf
          omega
        · exact h c hcm
      · exact h c hcm
    · rw [step_back hc hu he]; exact h
end
end Go.Proofs.Ybulkajny
