import Derived.Test.YbulkajnyTj
namespace Go.Proofs.Ybulkajny

section
variable {n N : Nat} {succ : Nat → List Nat} {s : TS} {v : Nat}

theorem above_under (v : Nat) (l : List Nat) (h : v ∈ l) : ∃ pre, l = pre ++ v :: under v l ∧ above v l = pre ++ [v] ∧ v ∉ pre := by
  induction l with
  | nil => cases h
  | cons x xs ih =>
    by_cases e : x = v
    · subst e; exact ⟨[], by simp [under], by simp [above], by simp⟩
    · obtain ⟨pre, h1, h2, h3⟩ := ih ((List.mem_cons.1 h).resolve_left (fun e' => e e'.symm))
      refine ⟨x :: pre, ?_, ?_, ?_⟩
      · rw [under, if_neg e, List.cons_append, ← h1]
      · rw [above, if_neg e, h2, List.cons_append]
      · simp [h3, Ne.symm e]

/-- What holds of the walk's state between any two rounds. -/
structure TI (N : Nat) (succ : Nat → List Nat) (s : TS) : Prop where
  lt : ∀ v, v ∈ s.seen → v < N
  nd : s.seen.Nodup
  ctr : s.ctr = s.seen.length
  idx0 : ∀ v, s.idx v = 0 ↔ v ∉ s.seen
  idxc : ∀ v, s.idx v ≤ s.ctr
  low : ∀ v, s.low v ≤ s.idx v
  dec : s.stk.Pairwise (fun a b => s.idx b < s.idx a)
  sub : ∀ v, v ∈ s.stk → v ∈ s.seen
  on : ∀ v, s.on v = true ↔ v ∈ s.stk
  cdec : s.calls.Pairwise (fun a b => s.idx b.1 < s.idx a.1)
  csub : ∀ f, f ∈ s.calls → f.1 ∈ s.stk
  fr : ∀ f, f ∈ s.calls → f.2 ≤ (succ f.1).length
  bot : (s.calls.getLast?).map Prod.fst = s.stk.getLast?
  ge : ∀ v, v ∈ s.stk → ∀ r, s.stk.getLast? = some r → s.idx r ≤ s.low v

theorem last_mem {α : Type} {l : List α} {x : α} (h : l.getLast? = some x) : x ∈ l := List.mem_of_getLast? h

theorem last_le {l : List Nat} {f : Nat → Nat} (h : l.Pairwise (fun a b => f b < f a)) {r v : Nat} (hr : l.getLast? = some r) (hv : v ∈ l) : f r ≤ f v := by
  induction l with
  | nil => cases hv
  | cons x xs ih =>
    cases xs with
    | nil =>
      simp at hr hv
      rw [hv, hr]
      exact Nat.le_refl _
    | cons y ys =>
      rw [List.getLast?_cons_cons] at hr
      have hr' := last_mem hr
      rcases List.mem_cons.1 hv with rfl | hv'
      · exact Nat.le_of_lt ((List.pairwise_cons.1 h).1 r hr')
      · exact ih (List.pairwise_cons.1 h).2 hr hv'

theorem TI.notin (h : TI N succ s) (h0 : s.idx v = 0) : v ∉ s.seen := (h.idx0 v).1 h0

theorem ud_idx_of_seen (h : TI N succ s) (h0 : s.idx v = 0) {x : Nat} (hx : x ∈ s.seen) (c : Nat) : ud s.idx v c x = s.idx x :=
  ud_ne (fun e => h.notin h0 (e ▸ hx))

/-- A node is opened, from a frame or as a root. -/
theorem TI.open (h : TI N succ s) (hv : v < N) (h0 : s.idx v = 0) (hb : s.calls = [] → s.stk = []) : TI N succ (openN s v) := by
  have hn := h.notin h0
  have hns : v ∉ s.stk := fun e => hn (h.sub v e)
  refine ⟨?_, ?_, ?_, ?_, ?_, ?_, ?_, ?_, ?_, ?_, ?_, ?_, ?_, ?_⟩
  · intro x hx
    rcases List.mem_cons.1 hx with rfl | hx
    · exact hv
    · exact h.lt x hx
  · exact List.nodup_cons.2 ⟨hn, h.nd⟩
  · show s.ctr + 1 = (v :: s.seen).length
    rw [h.ctr]; rfl
  · intro x
    show ud s.idx v (s.ctr + 1) x = 0 ↔ x ∉ v :: s.seen
    by_cases e : x = v
    · subst e; simp [ud_eq]
    · rw [ud_ne e, h.idx0 x]; simp [e]
  · intro x
    show ud s.idx v (s.ctr + 1) x ≤ s.ctr + 1
    by_cases e : x = v
    · subst e; rw [ud_eq]; exact Nat.le_refl _
    · rw [ud_ne e]; exact Nat.le_succ_of_le (h.idxc x)
  · intro x
    show ud s.low v (s.ctr + 1) x ≤ ud s.idx v (s.ctr + 1) x
    by_cases e : x = v
    · subst e; rw [ud_eq, ud_eq]; exact Nat.le_refl _
    · rw [ud_ne e, ud_ne e]; exact h.low x
  · show (v :: s.stk).Pairwise (fun a b => ud s.idx v (s.ctr + 1) b < ud s.idx v (s.ctr + 1) a)
    refine List.pairwise_cons.2 ⟨fun x hx => ?_, ?_⟩
    · rw [ud_idx_of_seen h h0 (h.sub x hx), ud_eq]
      exact Nat.lt_succ_of_le (h.idxc x)
    · refine h.dec.imp_of_mem (fun {a b} ha hb hab => ?_)
      rw [ud_idx_of_seen h h0 (h.sub a ha), ud_idx_of_seen h h0 (h.sub b hb)]
      exact hab
  · intro x hx
    rcases List.mem_cons.1 hx with rfl | hx
    · exact List.mem_cons_self
    · exact List.mem_cons_of_mem _ (h.sub x hx)
  · intro x
    show ud s.on v true x = true ↔ x ∈ v :: s.stk
    by_cases e : x = v
    · subst e; simp [ud_eq]
    · rw [ud_ne e, h.on x]; simp [e]
  · show ((v, 0) :: s.calls).Pairwise (fun a b => ud s.idx v (s.ctr + 1) b.1 < ud s.idx v (s.ctr + 1) a.1)
    refine List.pairwise_cons.2 ⟨fun x hx => ?_, ?_⟩
    · rw [ud_idx_of_seen h h0 (h.sub _ (h.csub x hx)), ud_eq]
      exact Nat.lt_succ_of_le (h.idxc _)
    · refine h.cdec.imp_of_mem (fun {a b} ha hb hab => ?_)
      rw [ud_idx_of_seen h h0 (h.sub _ (h.csub a ha)), ud_idx_of_seen h h0 (h.sub _ (h.csub b hb))]
      exact hab
  · intro f hf
    rcases List.mem_cons.1 hf with rfl | hf
    · exact List.mem_cons_self
    · exact List.mem_cons_of_mem _ (h.csub f hf)
  · intro f hf
    rcases List.mem_cons.1 hf with rfl | hf
    · exact Nat.zero_le _
    · exact h.fr f hf
  · show (((v, 0) :: s.calls).getLast?).map Prod.fst = (v :: s.stk).getLast?
    cases hc : s.calls with
    | nil => rw [hb hc]; rfl
    | cons f cs =>
      have hbt := h.bot
      rw [hc] at hbt
      rw [List.getLast?_cons_cons, hbt]
      cases hk : s.stk with
      | nil => rw [hk] at hbt; simp [List.getLast?_cons] at hbt
      | cons y ys => rw [List.getLast?_cons_cons]
  · intro x hx r hr
    have hr' : r ∈ v :: s.stk := last_mem hr
    show ud s.idx v (s.ctr + 1) r ≤ ud s.low v (s.ctr + 1) x
    by_cases e : x = v
    · subst e
      rw [ud_eq]
      by_cases e' : r = x
      · subst e'; rw [ud_eq]; exact Nat.le_refl _
      · rw [ud_ne e']; exact Nat.le_succ_of_le (h.idxc r)
    · have hx' : x ∈ s.stk := (List.mem_cons.1 hx).resolve_left e
      rw [ud_ne e]
      cases hk : s.stk with
      | nil => rw [hk] at hx'; cases hx'
      | cons y ys =>
        have hr2 : s.stk.getLast? = some r := by
          have := hr
          show s.stk.getLast? = some r
          have e2 : (v :: s.stk).getLast? = some r := this
          rw [hk, List.getLast?_cons_cons] at e2
          rw [hk]; exact e2
        have hrs := last_mem hr2
        rw [ud_idx_of_seen h h0 (h.sub r hrs)]
        exact h.ge x hx' r hr2

/-- The top frame goes one on. -/
theorem TI.next (h : TI N succ s) {i : Nat} {cs : List (Nat × Nat)} (hc : s.calls = (v, i) :: cs) (hi : i + 1 ≤ (succ v).length) : TI N succ { s with calls := (v, i + 1) :: cs } := by
  refine ⟨h.lt, h.nd, h.ctr, h.idx0, h.idxc, h.low, h.dec, h.sub, h.on, ?_, ?_, ?_, ?_, h.ge⟩
  · have := h.cdec
    rw [hc] at this
    exact List.pairwise_cons.2 (List.pairwise_cons.1 this)
  · intro f hf
    rcases List.mem_cons.1 hf with rfl | hf
    · exact h.csub (v, i) (by rw [hc]; exact List.mem_cons_self)
    · exact h.csub f (by rw [hc]; exact List.mem_cons_of_mem _ hf)
  · intro f hf
    rcases List.mem_cons.1 hf with rfl | hf
    · exact hi
    · exact h.fr f (by rw [hc]; exact List.mem_cons_of_mem _ hf)
  · have hb := h.bot
    rw [hc] at hb
    show (((v, i + 1) :: cs).getLast?).map Prod.fst = s.stk.getLast?
    rw [← hb]
    cases cs with
    | nil => rfl
    | cons f fs => rw [List.getLast?_cons_cons, List.getLast?_cons_cons]

/-- The low of v is lowered, to no less than the root's index. -/
theorem TI.lower (h : TI N succ s) (v x : Nat) (hx : ∀ r, s.stk.getLast? = some r → s.idx r ≤ x) : TI N succ { s with low := ud s.low v (min (s.low v) x) } := by
  refine ⟨h.lt, h.nd, h.ctr, h.idx0, h.idxc, ?_, h.dec, h.sub, h.on, h.cdec, h.csub, h.fr, h.bot, ?_⟩
  · intro y
    show ud s.low v (min (s.low v) x) y ≤ s.idx y
    by_cases e : y = v
    · subst e; rw [ud_eq]; exact Nat.le_trans (Nat.min_le_left _ _) (h.low y)
    · rw [ud_ne e]; exact h.low y
  · intro y hy r hr
    show s.idx r ≤ ud s.low v (min (s.low v) x) y
    by_cases e : y = v
    · subst e; rw [ud_eq]; exact Nat.le_min.2 ⟨h.ge y hy r hr, hx r hr⟩
    · rw [ud_ne e]; exact h.ge y hy r hr

theorem TI.nodup (h : TI N succ s) : s.stk.Nodup := h.dec.imp (fun {a b} hab e => by subst e; exact Nat.lt_irrefl _ hab)

/-- A frame is given up that is not the root's. -/
theorem TI.back (h : TI N succ s) {i : Nat} {f : Nat × Nat} {cs : List (Nat × Nat)} (hc : s.calls = (v, i) :: f :: cs) : TI N succ { s with calls := f :: cs, low := lowUp s v (f :: cs) } := by
  have hv : v ∈ s.stk := h.csub (v, i) (by rw [hc]; exact List.mem_cons_self)
  have h1 := h.lower f.1 (s.low v) (fun r hr => h.ge v hv r hr)
  refine ⟨h1.lt, h1.nd, h1.ctr, h1.idx0, h1.idxc, h1.low, h1.dec, h1.sub, h1.on, ?_, fun g hg => ?_, fun g hg => ?_, ?_, h1.ge⟩
  · have := h.cdec
    rw [hc] at this
    exact (List.pairwise_cons.1 this).2
  · exact h.csub g (by rw [hc]; exact List.mem_cons_of_mem _ hg)
  · exact h.fr g (by rw [hc]; exact List.mem_cons_of_mem _ hg)
  · have hb := h.bot
    rw [hc, List.getLast?_cons_cons] at hb
    exact hb

/-- The stack is taken down to v, whose frame has been given up; other frames are left. -/
theorem TI.pop (h : TI N succ s) {f : Nat × Nat} {cs : List (Nat × Nat)} (hc : s.calls = f :: cs) (hv : v ∈ s.stk) (hlt : ∀ g, g ∈ s.calls → s.idx g.1 < s.idx v) : TI N succ (popN n s v) := by
  obtain ⟨pre, h1, h2, h3⟩ := above_under v s.stk hv
  have hdec := h.dec
  rw [h1] at hdec
  have hd := List.pairwise_append.1 hdec
  have hu := List.pairwise_cons.1 hd.2.1
  have hmem : ∀ x, x ∈ s.stk → (x ∈ above v s.stk ∨ x ∈ under v s.stk) := by
    intro x hx
    rw [h1] at hx
    rw [h2]
    rcases List.mem_append.1 hx with hx | hx
    · exact .inl (List.mem_append_left _ hx)
    · rcases List.mem_cons.1 hx with rfl | hx
      · exact .inl (List.mem_append_right _ (List.mem_singleton.2 rfl))
      · exact .inr hx
  have hge : ∀ x, x ∈ above v s.stk → s.idx v ≤ s.idx x := by
    intro x hx
    rw [h2] at hx
    rcases List.mem_append.1 hx with hx | hx
    · exact Nat.le_of_lt (hd.2.2 x hx v List.mem_cons_self)
    · rw [List.mem_singleton.1 hx]; exact Nat.le_refl _
  have hul : ∀ x, x ∈ under v s.stk → x ∈ s.stk := fun x hx => by rw [h1]; exact List.mem_append_right _ (List.mem_cons_of_mem _ hx)
  have hsplit : ∀ x, x ∈ s.stk → s.idx x < s.idx v → x ∈ under v s.stk := fun x hx hlt => (hmem x hx).resolve_left (fun ha => by have := hge x ha; omega)
  have hcu : ∀ g, g ∈ s.calls → g.1 ∈ under v s.stk := fun g hg => hsplit _ (h.csub g hg) (hlt g hg)
  have hne : under v s.stk ≠ [] := fun e => by
    have := hcu f (by rw [hc]; exact List.mem_cons_self)
    rw [e] at this
    cases this
  have hlast : (under v s.stk).getLast? = s.stk.getLast? := by
    conv => rhs; rw [h1]
    rw [List.getLast?_append, List.getLast?_cons]
    cases hk : (under v s.stk).getLast? with
    | none => rw [List.getLast?_eq_none_iff] at hk; exact absurd hk hne
    | some r => simp
  refine ⟨h.lt, h.nd, h.ctr, h.idx0, h.idxc, h.low, hu.2, fun x hx => h.sub x (hul x hx), fun x => ?_, h.cdec, hcu, h.fr, ?_, fun x hx r hr => ?_⟩
  · show offAll s.on (above v s.stk) x = true ↔ x ∈ under v s.stk
    unfold offAll
    by_cases ha : x ∈ above v s.stk
    · rw [if_pos ha]
      refine ⟨fun e => (by cases e), fun hx => ?_⟩
      have := hu.1 x hx
      have := hge x ha
      omega
    · rw [if_neg ha, h.on x]
      exact ⟨fun hx => (hmem x hx).resolve_left ha, hul x⟩
  · show (s.calls.getLast?).map Prod.fst = (under v s.stk).getLast?
    rw [hlast]; exact h.bot
  · have hr' : (under v s.stk).getLast? = some r := hr
    rw [hlast] at hr'
    exact h.ge x (hul x hx) r hr'

theorem idx_inj_stk (h : TI N succ s) {x y : Nat} (hx : x ∈ s.stk) (hy : y ∈ s.stk) (e : s.idx x = s.idx y) : x = y := by
  by_cases hxy : x = y
  · exact hxy
  · have hd := h.dec
    have : ∀ l : List Nat, l.Pairwise (fun a b => s.idx b < s.idx a) → x ∈ l → y ∈ l → False := by
      intro l
      induction l with
      | nil => intro _ hx; cases hx
      | cons a l ih =>
        intro hp hx hy
        have hp' := List.pairwise_cons.1 hp
        rcases List.mem_cons.1 hx with rfl | _
        · rcases List.mem_cons.1 hy with rfl | hy
          · exact hxy rfl
          · have := hp'.1 y hy; omega
        · rename_i hx'
          rcases List.mem_cons.1 hy with rfl | hy
          · have := hp'.1 x hx'; omega
          · exact ih hp'.2 hx' hy
    exact (this s.stk hd hx hy).elim

/-- The root's frame is given up: its low is its index, and the stack is emptied. -/
theorem TI.root (h : TI N succ s) {i : Nat} (hc : s.calls = [(v, i)]) : s.low v = s.idx v ∧ under v s.stk = [] ∧ (∀ x, x ∈ s.stk → x ∈ above v s.stk) ∧ v ∈ s.stk := by
  have hv : v ∈ s.stk := h.csub (v, i) (by rw [hc]; exact List.mem_singleton.2 rfl)
  have hb := h.bot
  rw [hc] at hb
  have hl : s.stk.getLast? = some v := hb.symm
  obtain ⟨pre, h1, h2, h3⟩ := above_under v s.stk hv
  have hun : under v s.stk = [] := by
    cases hk : under v s.stk with
    | nil => rfl
    | cons y ys =>
      have hd := h.dec
      rw [h1, hk] at hd hl
      rw [List.getLast?_append, List.getLast?_cons_cons] at hl
      have hlm : v ∈ y :: ys := by
        cases hg : (y :: ys).getLast? with
        | none => simp [List.getLast?_cons] at hg
        | some r =>
          rw [hg] at hl
          simp at hl
          rw [← hl]
          exact last_mem hg
      have := (List.pairwise_cons.1 (List.pairwise_append.1 hd).2.1).1 v hlm
      omega
  refine ⟨Nat.le_antisymm (h.low v) (h.ge v hv v hl), hun, fun x hx => ?_, hv⟩
  rw [h2]
  rw [h1, hun] at hx
  exact hx

/-- Behind a root: no frame, no stack. -/
structure Clean (N : Nat) (succ : Nat → List Nat) (s : TS) : Prop extends TI N succ s where
  c0 : s.calls = []
  s0 : s.stk = []

theorem Clean.of_root (h : TI N succ s) {i : Nat} (hc : s.calls = [(v, i)]) : Clean N succ (popN n { s with calls := [], low := lowUp s v [] } v) := by
  obtain ⟨hlow, hun, hall, hv⟩ := h.root hc
  refine ⟨⟨h.lt, h.nd, h.ctr, h.idx0, h.idxc, h.low, ?_, fun x hx => ?_, fun x => ?_, List.Pairwise.nil, fun f hf => (by cases hf), fun f hf => (by cases hf), ?_, fun x hx => ?_⟩, rfl, hun⟩
  · show (under v s.stk).Pairwise _
    rw [hun]; exact List.Pairwise.nil
  · have : x ∈ under v s.stk := hx
    rw [hun] at this; cases this
  · show offAll s.on (above v s.stk) x = true ↔ x ∈ under v s.stk
    rw [hun]
    unfold offAll
    by_cases ha : x ∈ above v s.stk
    · rw [if_pos ha]; simp
    · rw [if_neg ha]
      constructor
      · intro e; exact absurd (hall x ((h.on x).1 e)) ha
      · intro e; cases e
  · show none = (under v s.stk).getLast?
    rw [hun]; rfl
  · have : x ∈ under v s.stk := hx
    rw [hun] at this; cases this

theorem step_open {i u : Nat} {cs : List (Nat × Nat)} (hc : s.calls = (v, i) :: cs) (hu : (succ v)[i]? = some u) (h0 : s.idx u = 0) : step n succ s = openN { s with calls := (v, i + 1) :: cs } u := by
  simp only [step, hc, hu, h0, if_pos]
theorem step_low {i u : Nat} {cs : List (Nat × Nat)} (hc : s.calls = (v, i) :: cs) (hu : (succ v)[i]? = some u) (h0 : s.idx u ≠ 0) (hon : s.on u = true) : step n succ s = { s with calls := (v, i + 1) :: cs, low := ud s.low v (min (s.low v) (s.idx u)) } := by
  simp only [step, hc, hu, if_neg h0, hon, if_pos]
theorem step_skip {i u : Nat} {cs : List (Nat × Nat)} (hc : s.calls = (v, i) :: cs) (hu : (succ v)[i]? = some u) (h0 : s.idx u ≠ 0) (hon : s.on u = false) : step n succ s = { s with calls := (v, i + 1) :: cs } := by
  simp only [step, hc, hu, if_neg h0, hon]; simp
theorem step_pop {i : Nat} {cs : List (Nat × Nat)} (hc : s.calls = (v, i) :: cs) (hu : (succ v)[i]? = none) (he : lowUp s v cs v = s.idx v) : step n succ s = popN n { s with calls := cs, low := lowUp s v cs } v := by
  simp only [step, hc, hu, he, if_pos]
theorem step_back {i : Nat} {cs : List (Nat × Nat)} (hc : s.calls = (v, i) :: cs) (hu : (succ v)[i]? = none) (he : lowUp s v cs v ≠ s.idx v) : step n succ s = { s with calls := cs, low := lowUp s v cs } := by
  simp only [step, hc, hu, if_neg he]

/-- How many rounds are left at most. -/
def phi (N : Nat) (succ : Nat → List Nat) (s : TS) : Nat :=
  ((List.range N).map (fun v => if s.idx v = 0 then (succ v).length + 1 else 0)).sum + (s.calls.map (fun f => (succ f.1).length - f.2 + 1)).sum

theorem sum_upd {l : List Nat} (hl : l.Nodup) {f g : Nat → Nat} {u : Nat} (hu : u ∈ l) (h : ∀ x, x ≠ u → f x = g x) : (l.map f).sum + g u = (l.map g).sum + f u := by
  induction l with
  | nil => cases hu
  | cons x xs ih =>
    have hx := List.nodup_cons.1 hl
    simp only [List.map_cons, List.sum_cons]
    by_cases e : x = u
    · subst e
      have : xs.map f = xs.map g := List.map_congr_left (fun y hy => h y (fun e => hx.1 (e ▸ hy)))
      rw [this]; omega
    · have := ih hx.2 ((List.mem_cons.1 hu).resolve_left (fun e' => e e'.symm))
      rw [h x e]; omega

theorem phi_open (hv : v < N) (h0 : s.idx v = 0) : phi N succ (openN s v) = phi N succ s := by
  have := sum_upd (l := List.range N) List.nodup_range (f := fun x => if ud s.idx v (s.ctr + 1) x = 0 then (succ x).length + 1 else 0) (g := fun x => if s.idx x = 0 then (succ x).length + 1 else 0) (u := v) (List.mem_range.2 hv) (fun x hx => by simp only [ud_ne hx])
  simp only [ud_eq, h0, if_pos, Nat.add_eq_zero_iff, Nat.one_ne_zero, and_false, if_false] at this
  unfold phi openN
  simp only [List.map_cons, List.sum_cons, Nat.sub_zero]
  omega

theorem phi_next {i : Nat} {cs : List (Nat × Nat)} (hc : s.calls = (v, i) :: cs) (hi : i < (succ v).length) (low : Nat → Nat) : phi N succ { s with calls := (v, i + 1) :: cs, low := low } + 1 = phi N succ s := by
  unfold phi
  simp only [hc, List.map_cons, List.sum_cons]
  omega
theorem phi_back {i : Nat} {cs : List (Nat × Nat)} (hc : s.calls = (v, i) :: cs) (low : Nat → Nat) : phi N succ { s with calls := cs, low := low } + 1 ≤ phi N succ s := by
  unfold phi
  simp only [hc, List.map_cons, List.sum_cons]
  omega

theorem lowUp_self {f : Nat × Nat} {cs : List (Nat × Nat)} (hne : f.1 ≠ v) : lowUp s v (f :: cs) v = s.low v := ud_ne (Ne.symm hne)

/-- A round keeps the invariant, and takes one from the measure. -/
theorem TI.step (h : TI N succ s) (hbd : ∀ v, v < N → ∀ u, u ∈ succ v → u < N) (hne : s.calls ≠ []) :
    TI N succ (step n succ s) ∧ ((step n succ s).calls = [] → Clean N succ (step n succ s)) ∧ phi N succ (step n succ s) + 1 ≤ phi N succ s := by
  obtain ⟨⟨v, i⟩, cs, hc⟩ := List.exists_cons_of_ne_nil hne
  have hvs : v ∈ s.stk := h.csub (v, i) (by rw [hc]; exact List.mem_cons_self)
  have hvN : v < N := h.lt v (h.sub v hvs)
  cases hu : (succ v)[i]? with
  | some u =>
    have hi : i < (succ v).length := (List.getElem?_eq_some_iff.1 hu).1
    have huN : u < N := hbd v hvN u (List.mem_of_getElem? hu)
    have hn := h.next hc (by omega)
    by_cases h0 : s.idx u = 0
    · rw [step_open hc hu h0]
      refine ⟨hn.open huN h0 (fun e => (by cases e)), fun e => (by cases e), ?_⟩
      rw [phi_open (s := { s with calls := (v, i + 1) :: cs }) huN h0]
      have := phi_next (N := N) hc hi s.low
      exact Nat.le_of_eq this
    · cases hon : s.on u with
      | true =>
        rw [step_low hc hu h0 hon]
        have hus : u ∈ s.stk := (h.on u).1 hon
        exact ⟨hn.lower v (s.idx u) (fun r hr => last_le h.dec hr hus), fun e => (by cases e), Nat.le_of_eq (phi_next hc hi _)⟩
      | false =>
        rw [step_skip hc hu h0 hon]
        exact ⟨hn, fun e => (by cases e), Nat.le_of_eq (phi_next hc hi s.low)⟩
  | none =>
    cases cs with
    | nil =>
      obtain ⟨hlow, _⟩ := h.root hc
      rw [step_pop hc hu hlow]
      have := Clean.of_root (n := n) h hc
      exact ⟨this.toTI, fun _ => this, phi_back hc s.low⟩
    | cons f cs =>
      have hcd := h.cdec
      rw [hc] at hcd
      have hlt : ∀ g, g ∈ f :: cs → s.idx g.1 < s.idx v := fun g hg => (List.pairwise_cons.1 hcd).1 g hg
      have hb := h.back hc
      by_cases he : lowUp s v (f :: cs) v = s.idx v
      · rw [step_pop hc hu he]
        exact ⟨hb.pop (f := f) (cs := cs) rfl hvs hlt, fun e => (by cases e), phi_back hc s.low⟩
      · rw [step_back hc hu he]
        exact ⟨hb, fun e => (by cases e), phi_back hc _⟩

def iter (n : Nat) (succ : Nat → List Nat) : Nat → TS → TS
  | 0, s => s
  | k + 1, s => iter n succ k (step n succ s)
theorem iter_succ (k : Nat) (s : TS) : iter n succ (k + 1) s = step n succ (iter n succ k s) := by
  induction k generalizing s with
  | zero => rfl
  | succ k ih => exact ih (step n succ s)
theorem step_done (h : s.calls = []) : step n succ s = s := by simp only [step, h]
theorem iter_done (k : Nat) (h : s.calls = []) : iter n succ k s = s := by
  induction k with
  | zero => rfl
  | succ k ih => rw [iter, step_done h]; exact ih
theorem iter_add (k m : Nat) (s : TS) : iter n succ (k + m) s = iter n succ m (iter n succ k s) := by
  induction k generalizing s with
  | zero => simp [iter]
  | succ k ih => rw [Nat.succ_add]; exact ih (step n succ s)
theorem iter_same {k m : Nat} {a b : TS} (ha : iter n succ k s = a) (hb : iter n succ m s = b) (ha0 : a.calls = []) (hb0 : b.calls = []) : a = b := by
  rcases Nat.le_total k m with h | h
  · obtain ⟨d, rfl⟩ := Nat.exists_eq_add_of_le h
    rw [iter_add, ha, iter_done d ha0] at hb
    exact hb
  · obtain ⟨d, rfl⟩ := Nat.exists_eq_add_of_le h
    rw [iter_add, hb, iter_done d hb0] at ha
    exact ha.symm

/-- A root of the walk, from s to s'. -/
def Proc (n : Nat) (succ : Nat → List Nat) (s : TS) (r : Nat) (s' : TS) : Prop :=
  (s.idx r ≠ 0 ∧ s' = s) ∨ (s.idx r = 0 ∧ ∃ k, iter n succ k (openN s r) = s' ∧ s'.calls = [])
def Outer (n : Nat) (succ : Nat → List Nat) : List Nat → TS → TS → Prop
  | [], s, s' => s' = s
  | r :: rs, s, s' => ∃ m, Proc n succ s r m ∧ Outer n succ rs m s'
theorem Proc.same {r : Nat} {a b : TS} (ha : Proc n succ s r a) (hb : Proc n succ s r b) : a = b := by
  rcases ha with ⟨h1, rfl⟩ | ⟨h1, k, h2, h3⟩
  · rcases hb with ⟨_, rfl⟩ | ⟨h, _⟩
    · rfl
    · exact absurd h h1
  · rcases hb with ⟨h, _⟩ | ⟨_, m, h4, h5⟩
    · exact absurd h1 h
    · exact iter_same h2 h4 h3 h5
theorem Outer.same {l : List Nat} {s a b : TS} (ha : Outer n succ l s a) (hb : Outer n succ l s b) : a = b := by
  induction l generalizing s with
  | nil => rw [show a = s from ha, show b = s from hb]
  | cons r rs ih =>
    obtain ⟨m, h1, h2⟩ := ha
    obtain ⟨m', h3, h4⟩ := hb
    have := h1.same h3
    subst this
    exact ih h2 h4
theorem Outer.snoc {l : List Nat} {r : Nat} {s m s' : TS} (h : Outer n succ l s m) (hp : Proc n succ m r s') : Outer n succ (l ++ [r]) s s' := by
  induction l generalizing s with
  | nil => rw [show m = s from h] at hp; exact ⟨s', hp, rfl⟩
  | cons x xs ih =>
    obtain ⟨m', h1, h2⟩ := h
    exact ⟨m', h1, ih h2⟩

def init : TS := ⟨fun _ => 0, fun _ => 0, fun _ => false, 0, [], [], [], []⟩
theorem Clean.init : Clean N succ init :=
  ⟨⟨fun v hv => by (cases hv), List.nodup_nil, rfl, fun v => by simp [Ybulkajny.init], fun v => Nat.le_refl _, fun v => Nat.le_refl _, List.Pairwise.nil, fun v hv => by (cases hv), fun v => by simp [Ybulkajny.init], List.Pairwise.nil, fun f hf => by (cases hf), fun f hf => by (cases hf), rfl, fun v hv => by (cases hv)⟩, rfl, rfl⟩
end
end Go.Proofs.Ybulkajny
