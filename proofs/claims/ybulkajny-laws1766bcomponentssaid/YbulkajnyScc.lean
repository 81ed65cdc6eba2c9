import Derived.Test.YbulkajnyInd
namespace Go.Proofs.Ybulkajny
set_option linter.unusedVariables false

/-- b can be come to from a. -/
def Rc (succ : Nat → List Nat) (a b : Nat) : Prop := ∀ S : Nat → Prop, S a → (∀ x y, S x → y ∈ succ x → S y) → S b

section
variable {n N : Nat} {succ : Nat → List Nat} {s : TS} {a b c : Nat}
theorem Rc.refl (succ : Nat → List Nat) (a : Nat) : Rc succ a a := fun _ h _ => h
theorem Rc.edge (h : b ∈ succ a) : Rc succ a b := fun _ ha hc => hc a b ha h
theorem Rc.trans (h1 : Rc succ a b) (h2 : Rc succ b c) : Rc succ a c := fun S ha hc => h2 S (h1 S ha hc) hc

/-- u is an arc's end of x that the walk has seen to. -/
def Pr (succ : Nat → List Nat) (calls : List (Nat × Nat)) (x u : Nat) : Prop :=
  (∃ f, f ∈ calls ∧ f.1 = x ∧ u ∈ (succ x).take f.2) ∨ ((∀ f, f ∈ calls → f.1 ≠ x) ∧ u ∈ succ x)
theorem Pr.mem {calls : List (Nat × Nat)} {x u : Nat} (h : Pr succ calls x u) : u ∈ succ x := by
  rcases h with ⟨f, _, _, h⟩ | ⟨_, h⟩
  · exact List.mem_of_mem_take h
  · exact h

structure SI (n : Nat) (succ : Nat → List Nat) (s : TS) : Prop where
  done : ∀ v, v ∈ s.seen → v ∉ s.stk → ∀ u, u ∈ succ v → u ∈ s.seen ∧ u ∉ s.stk
  pseen : ∀ x, x ∈ s.stk → ∀ u, Pr succ s.calls x u → u ∈ s.seen
  lowb : ∀ f, f ∈ s.calls → ∀ x, x ∈ s.stk → s.idx f.1 ≤ s.idx x → (∀ g, g ∈ s.calls → s.idx f.1 < s.idx g.1 → s.idx x < s.idx g.1) → ∀ u, Pr succ s.calls x u → u ∈ s.stk → s.low f.1 ≤ s.idx u
  lowe : ∀ f, f ∈ s.calls → ∃ y, y ∈ s.stk ∧ s.idx y = s.low f.1 ∧ Rc succ f.1 y
  gr : ∀ f, f ∈ s.calls → ∀ y, y ∈ s.stk → s.idx f.1 ≤ s.idx y → Rc succ f.1 y
  tog : ∀ x, x ∈ s.stk → ∃ f, f ∈ s.calls ∧ s.idx f.1 ≤ s.idx x ∧ Rc succ x f.1
  fs : ∀ c, c ∈ s.found → ∀ t, t ∈ c → t ∈ s.seen ∧ t ∉ s.stk ∧ ∀ u, u ∈ c ↔ (u < n ∧ Rc succ t u ∧ Rc succ u t)
  fo : ∀ c, c ∈ s.found → c.Pairwise (· < ·) ∧ 2 ≤ c.length
  fd : s.found.Pairwise (fun c d => ∀ t, t ∈ c → t ∉ d)
  fa : ∀ t, t ∈ s.seen → t ∉ s.stk → t < n → ∀ u, u < n → u ≠ t → Rc succ t u → Rc succ u t → ∃ c, c ∈ s.found ∧ t ∈ c

theorem SI.init : SI n succ init :=
  ⟨fun v hv => by (cases hv), fun x hx => by (cases hx), fun f hf => by (cases hf), fun f hf => by (cases hf), fun f hf => by (cases hf), fun x hx => by (cases hx), fun c hc => by (cases hc), fun c hc => by (cases hc), List.Pairwise.nil, fun t ht => by (cases ht)⟩

/-- A new node is opened, from the frame ahead of it or as a root. -/
theorem SI.openU {u : Nat} {calls' : List (Nat × Nat)} (h : SI n succ s) (hI : TI N succ s) (h0 : s.idx u = 0)
    (hc1 : ∀ f, f ∈ calls' → ∃ g, g ∈ s.calls ∧ g.1 = f.1) (hc2 : ∀ g, g ∈ s.calls → ∃ f, f ∈ calls' ∧ f.1 = g.1)
    (hpr : ∀ x w, Pr succ calls' x w → Pr succ s.calls x w ∨ w = u) (hreach : ∀ f, f ∈ calls' → Rc succ f.1 u) :
    SI n succ (openN { s with calls := calls' } u) := by
  have hu : u ∉ s.seen := (hI.idx0 u).1 h0
  have hus : u ∉ s.stk := fun hm => hu (hI.sub u hm)
  have hne : ∀ x, x ∈ s.seen → x ≠ u := fun x hx e => hu (e ▸ hx)
  have hix : ∀ x, x ∈ s.seen → ud s.idx u (s.ctr + 1) x = s.idx x := fun x hx => ud_ne (hne x hx)
  have hiu : ud s.idx u (s.ctr + 1) u = s.ctr + 1 := ud_eq
  have hle : ∀ x, s.idx x ≤ s.ctr := hI.idxc
  have hcs : ∀ f, f ∈ calls' → f.1 ∈ s.seen := fun f hf => by
    obtain ⟨g, hg, e⟩ := hc1 f hf
    rw [← e]
    exact hI.sub _ (hI.csub g hg)
  have hpr' : ∀ x w, Pr succ ((u, 0) :: calls') x w → x ≠ u ∧ Pr succ calls' x w := by
    rintro x w (⟨f, hf, rfl, hw⟩ | ⟨hf, hw⟩)
    · rcases List.mem_cons.1 hf with rfl | hf
      · simp at hw
      · exact ⟨hne _ (hcs f hf), .inl ⟨f, hf, rfl, hw⟩⟩
    · exact ⟨fun e => hf (u, 0) List.mem_cons_self e.symm, .inr ⟨fun f hf' => hf f (List.mem_cons_of_mem _ hf'), hw⟩⟩
  refine ⟨fun v hv hvs w hw => ?_, fun x hx w hw => ?_, fun f hf x hx hfx hg w hw hws => ?_, fun f hf => ?_, fun f hf y hy hfy => ?_, fun x hx => ?_, fun c hc t ht => ?_, h.fo, h.fd, fun t ht hts htn w hwn hwt r1 r2 => ?_⟩
  · have hvu : v ≠ u := fun e => hvs (e ▸ List.mem_cons_self)
    have hv1 : v ∈ s.seen := (List.mem_cons.1 hv).resolve_left hvu
    obtain ⟨q1, q2⟩ := h.done v hv1 (fun hm => hvs (List.mem_cons_of_mem _ hm)) w hw
    exact ⟨List.mem_cons_of_mem _ q1, fun hm => (List.mem_cons.1 hm).elim (hne w q1) q2⟩
  · obtain ⟨hxu, hw⟩ := hpr' x w hw
    have hx1 : x ∈ s.stk := (List.mem_cons.1 hx).resolve_left hxu
    rcases hpr x w hw with hw | rfl
    · exact List.mem_cons_of_mem _ (h.pseen x hx1 w hw)
    · exact List.mem_cons_self
  · obtain ⟨hxu, hw⟩ := hpr' x w hw
    have hx1 : x ∈ s.stk := (List.mem_cons.1 hx).resolve_left hxu
    have hx2 := hI.sub x hx1
    rcases List.mem_cons.1 hf with rfl | hf
    · exfalso
      have hfx : ud s.idx u (s.ctr + 1) u ≤ ud s.idx u (s.ctr + 1) x := hfx
      rw [hiu, hix x hx2] at hfx
      have := hle x
      omega
    · obtain ⟨g0, hg0, e0⟩ := hc1 f hf
      have hfs := hcs f hf
      show ud s.low u (s.ctr + 1) f.1 ≤ ud s.idx u (s.ctr + 1) w
      rw [ud_ne (hne _ hfs)]
      rcases hpr x w hw with hw | rfl
      · have hw2 := h.pseen x hx1 w hw
        have hws1 : w ∈ s.stk := (List.mem_cons.1 hws).resolve_left (hne w hw2)
        rw [hix w hw2, ← e0]
        refine h.lowb g0 hg0 x hx1 ?_ (fun g hgm hlt => ?_) w hw hws1
        · have hfx : ud s.idx u (s.ctr + 1) f.1 ≤ ud s.idx u (s.ctr + 1) x := hfx
          rw [hix _ hfs, hix x hx2] at hfx
          rw [e0]; exact hfx
        · obtain ⟨g', hg', e'⟩ := hc2 g hgm
          have hgs := hcs g' hg'
          have := hg g' (List.mem_cons_of_mem _ hg') (by
            show ud s.idx u (s.ctr + 1) f.1 < ud s.idx u (s.ctr + 1) g'.1
            rw [hix _ hfs, hix _ hgs, e', ← e0]; exact hlt)
          have this : ud s.idx u (s.ctr + 1) x < ud s.idx u (s.ctr + 1) g'.1 := this
          rw [hix x hx2, hix _ hgs, e'] at this
          exact this
      · rw [hiu]
        have h1 := hI.low f.1
        have h2 := hle f.1
        omega
  · rcases List.mem_cons.1 hf with rfl | hf
    · exact ⟨u, List.mem_cons_self, by show ud s.idx u (s.ctr + 1) u = ud s.low u (s.ctr + 1) u; rw [ud_eq, ud_eq], Rc.refl _ _⟩
    · obtain ⟨g0, hg0, e0⟩ := hc1 f hf
      obtain ⟨y, hy, e, r⟩ := h.lowe g0 hg0
      refine ⟨y, List.mem_cons_of_mem _ hy, ?_, by rw [← e0]; exact r⟩
      show ud s.idx u (s.ctr + 1) y = ud s.low u (s.ctr + 1) f.1
      rw [hix y (hI.sub y hy), ud_ne (hne _ (hcs f hf)), ← e0]
      exact e
  · rcases List.mem_cons.1 hf with rfl | hf
    · rcases List.mem_cons.1 hy with rfl | hy
      · exact Rc.refl _ _
      · exfalso
        have hfy : ud s.idx u (s.ctr + 1) u ≤ ud s.idx u (s.ctr + 1) y := hfy
        rw [hiu, hix y (hI.sub y hy)] at hfy
        have := hle y
        omega
    · rcases List.mem_cons.1 hy with e | hy
      · rw [e]; exact hreach f hf
      · obtain ⟨g0, hg0, e0⟩ := hc1 f hf
        have hfy : ud s.idx u (s.ctr + 1) f.1 ≤ ud s.idx u (s.ctr + 1) y := hfy
        rw [hix _ (hcs f hf), hix y (hI.sub y hy)] at hfy
        rw [← e0]
        exact h.gr g0 hg0 y hy (by rw [e0]; exact hfy)
  · rcases List.mem_cons.1 hx with rfl | hx
    · exact ⟨(x, 0), List.mem_cons_self, Nat.le_refl _, Rc.refl _ _⟩
    · obtain ⟨f, hf, hle', r⟩ := h.tog x hx
      obtain ⟨f', hf', e'⟩ := hc2 f hf
      refine ⟨f', List.mem_cons_of_mem _ hf', ?_, by rw [e']; exact r⟩
      show ud s.idx u (s.ctr + 1) f'.1 ≤ ud s.idx u (s.ctr + 1) x
      rw [hix _ (hcs f' hf'), hix x (hI.sub x hx), e']
      exact hle'
  · obtain ⟨q1, q2, q3⟩ := h.fs c hc t ht
    exact ⟨List.mem_cons_of_mem _ q1, fun hm => (List.mem_cons.1 hm).elim (hne t q1) q2, q3⟩
  · have htu : t ≠ u := fun e => hts (e ▸ List.mem_cons_self)
    exact h.fa t ((List.mem_cons.1 ht).resolve_left htu) (fun hm => hts (List.mem_cons_of_mem _ hm)) htn w hwn hwt r1 r2

theorem SI.root (h : SI n succ s) (hC : Clean N succ s) (h0 : s.idx a = 0) : SI n succ (openN s a) := by
  have e : s = { s with calls := s.calls } := rfl
  rw [e]
  refine h.openU hC.toTI h0 (fun f hf => ⟨f, hf, rfl⟩) (fun f hf => ⟨f, hf, rfl⟩) (fun x w hw => .inl hw) (fun f hf => ?_)
  rw [hC.c0] at hf; cases hf

theorem take_snoc {l : List Nat} {i u w : Nat} (hu : l[i]? = some u) (h : w ∈ l.take (i + 1)) : w ∈ l.take i ∨ w = u := by
  rw [List.take_add_one, hu] at h
  simpa using h
theorem pr_next {v i u : Nat} {cs : List (Nat × Nat)} (hu : (succ v)[i]? = some u) (x w : Nat) (h : Pr succ ((v, i + 1) :: cs) x w) : Pr succ ((v, i) :: cs) x w ∨ (x = v ∧ w = u) := by
  rcases h with ⟨f, hf, rfl, hw⟩ | ⟨hf, hw⟩
  · rcases List.mem_cons.1 hf with rfl | hf
    · rcases take_snoc hu hw with hw | rfl
      · exact .inl (.inl ⟨(v, i), List.mem_cons_self, rfl, hw⟩)
      · exact .inr ⟨rfl, rfl⟩
    · exact .inl (.inl ⟨f, List.mem_cons_of_mem _ hf, rfl, hw⟩)
  · refine .inl (.inr ⟨fun f hf' => ?_, hw⟩)
    rcases List.mem_cons.1 hf' with rfl | hf'
    · exact hf (v, i + 1) List.mem_cons_self
    · exact hf f (List.mem_cons_of_mem _ hf')

/-- An arc to a node that is seen: only the frame and its low change. -/
theorem SI.next {v i u : Nat} {cs : List (Nat × Nat)} {low' : Nat → Nat} (h : SI n succ s) (hI : TI N succ s) (hc : s.calls = (v, i) :: cs) (hu : (succ v)[i]? = some u) (h0 : s.idx u ≠ 0)
    (hl : ∀ x, low' x ≤ s.low x) (hlv : u ∈ s.stk → low' v ≤ s.idx u) (hle : ∀ f, f ∈ s.calls → ∃ y, y ∈ s.stk ∧ s.idx y = low' f.1 ∧ Rc succ f.1 y) : SI n succ { s with calls := (v, i + 1) :: cs, low := low' } := by
  have hv : (v, i) ∈ s.calls := by rw [hc]; exact List.mem_cons_self
  have hcm : ∀ f, f ∈ (v, i + 1) :: cs → ∃ g, g ∈ s.calls ∧ g.1 = f.1 := fun f hf => by
    rcases List.mem_cons.1 hf with rfl | hf
    · exact ⟨(v, i), hv, rfl⟩
    · exact ⟨f, by rw [hc]; exact List.mem_cons_of_mem _ hf, rfl⟩
  have hcm' : ∀ f, f ∈ s.calls → ∃ g, g ∈ (v, i + 1) :: cs ∧ g.1 = f.1 := fun f hf => by
    rw [hc] at hf
    rcases List.mem_cons.1 hf with rfl | hf
    · exact ⟨(v, i + 1), List.mem_cons_self, rfl⟩
    · exact ⟨f, List.mem_cons_of_mem _ hf, rfl⟩
  have hpr : ∀ x w, Pr succ ((v, i + 1) :: cs) x w → Pr succ s.calls x w ∨ (x = v ∧ w = u) := fun x w hw => by
    rw [hc]; exact pr_next hu x w hw
  have hus : u ∈ s.seen := Classical.byContradiction fun hm => h0 ((hI.idx0 u).2 hm)
  refine ⟨h.done, fun x hx w hw => ?_, fun f hf x hx hfx hg w hw hws => ?_, fun f hf => ?_, fun f hf y hy hfy => ?_, fun x hx => ?_, h.fs, h.fo, h.fd, h.fa⟩
  · rcases hpr x w hw with hw | ⟨_, rfl⟩
    · exact h.pseen x hx w hw
    · exact hus
  · obtain ⟨g0, hg0, e0⟩ := hcm f hf
    show low' f.1 ≤ s.idx w
    rcases hpr x w hw with hw | ⟨rfl, rfl⟩
    · refine Nat.le_trans (hl f.1) ?_
      rw [← e0]
      refine h.lowb g0 hg0 x hx (by rw [e0]; exact hfx) (fun g hgm hlt => ?_) w hw hws
      obtain ⟨g', hg', e'⟩ := hcm' g hgm
      have := hg g' hg' (by show s.idx f.1 < s.idx g'.1; rw [e', ← e0]; exact hlt)
      have this : s.idx x < s.idx g'.1 := this
      rw [e'] at this; exact this
    · have hfx : s.idx f.1 ≤ s.idx x := hfx
      have hfe : s.idx f.1 = s.idx x := by
        rcases Nat.lt_or_ge (s.idx f.1) (s.idx x) with hlt | hge
        · have := hg (x, i + 1) List.mem_cons_self hlt
          exact absurd this (Nat.lt_irrefl _)
        · omega
      have hfv : f.1 = x := idx_inj_stk hI (by rw [← e0]; exact hI.csub g0 hg0) hx hfe
      rw [hfv]
      exact hlv hws
  · obtain ⟨g0, hg0, e0⟩ := hcm f hf
    obtain ⟨y, hy, e, r⟩ := hle g0 hg0
    exact ⟨y, hy, by show s.idx y = low' f.1; rw [← e0]; exact e, by rw [← e0]; exact r⟩
  · obtain ⟨g0, hg0, e0⟩ := hcm f hf
    rw [← e0]
    exact h.gr g0 hg0 y hy (by rw [e0]; exact hfy)
  · obtain ⟨f, hf, hle', r⟩ := h.tog x hx
    obtain ⟨g, hg, e⟩ := hcm' f hf
    exact ⟨g, hg, by show s.idx g.1 ≤ s.idx x; rw [e]; exact hle', by rw [e]; exact r⟩

theorem top_lt {v i : Nat} {cs : List (Nat × Nat)} (hI : TI N succ s) (hc : s.calls = (v, i) :: cs) {f : Nat × Nat} (hf : f ∈ cs) : s.idx f.1 < s.idx v := by
  have := hI.cdec
  rw [hc, List.pairwise_cons] at this
  exact this.1 f hf
theorem take_all {v i : Nat} {cs : List (Nat × Nat)} (hc : s.calls = (v, i) :: cs) (hu : (succ v)[i]? = none) : (succ v).take i = succ v := List.take_of_length_le (List.getElem?_eq_none_iff.1 hu)
/-- The frame of v is gone: its arcs had all been seen to. -/
theorem pr_gone {v i : Nat} {cs : List (Nat × Nat)} (hc : s.calls = (v, i) :: cs) (hu : (succ v)[i]? = none) (x w : Nat) (h : Pr succ cs x w) : Pr succ s.calls x w := by
  rw [hc]
  rcases h with ⟨f, hf, e, hw⟩ | ⟨hf, hw⟩
  · exact .inl ⟨f, List.mem_cons_of_mem _ hf, e, hw⟩
  · by_cases e : v = x
    · subst e
      exact .inl ⟨(v, i), List.mem_cons_self, rfl, by rw [take_all hc hu]; exact hw⟩
    · refine .inr ⟨fun f hf' => ?_, hw⟩
      rcases List.mem_cons.1 hf' with rfl | hf'
      · exact e
      · exact hf f hf'

theorem SI.back {v i p j : Nat} {cs : List (Nat × Nat)} (h : SI n succ s) (hI : TI N succ s) (hc : s.calls = (v, i) :: (p, j) :: cs) (hu : (succ v)[i]? = none) (hlt : s.low v < s.idx v) :
    SI n succ { s with calls := (p, j) :: cs, low := ud s.low p (min (s.low p) (s.low v)) } := by
  have hv : (v, i) ∈ s.calls := by rw [hc]; exact List.mem_cons_self
  have hp : (p, j) ∈ s.calls := by rw [hc]; exact List.mem_cons_of_mem _ List.mem_cons_self
  have hsub : ∀ f, f ∈ (p, j) :: cs → f ∈ s.calls := fun f hf => by rw [hc]; exact List.mem_cons_of_mem _ hf
  have hpv : s.idx p < s.idx v := top_lt hI hc (f := (p, j)) List.mem_cons_self
  have hptop : ∀ f, f ∈ cs → s.idx f.1 < s.idx p := fun f hf => by
    have := hI.cdec
    rw [hc, List.pairwise_cons, List.pairwise_cons] at this
    exact this.2.1 f hf
  have hvs := hI.csub (v, i) hv
  have hps := hI.csub (p, j) hp
  have hpr := pr_gone (s := s) hc hu
  have hone : ∀ g, g ∈ s.calls → g.1 ≠ v → g ∈ (p, j) :: cs := fun g hg hne => by
    rw [hc] at hg
    rcases List.mem_cons.1 hg with rfl | hg
    · exact absurd rfl hne
    · exact hg
  refine ⟨h.done, fun x hx w hw => h.pseen x hx w (hpr x w hw), fun f hf x hx hfx hg w hw hws => ?_, fun f hf => ?_, fun f hf y hy hfy => h.gr f (hsub f hf) y hy hfy, fun x hx => ?_, h.fs, h.fo, h.fd, h.fa⟩
  · have hw := hpr x w hw
    have hfx : s.idx f.1 ≤ s.idx x := hfx
    have hg : ∀ g, g ∈ (p, j) :: cs → s.idx f.1 < s.idx g.1 → s.idx x < s.idx g.1 := hg
    show ud s.low p (min (s.low p) (s.low v)) f.1 ≤ s.idx w
    by_cases hfp : f.1 = p
    · rw [hfp, ud_eq]
      rcases Nat.lt_or_ge (s.idx x) (s.idx v) with hxv | hxv
      · refine Nat.le_trans (Nat.min_le_left _ _) ?_
        refine h.lowb (p, j) hp x hx (by rw [← hfp]; exact hfx) (fun g hgm hlt' => ?_) w hw hws
        by_cases hgv : g.1 = v
        · rw [hgv]; exact hxv
        · exact hg g (hone g hgm hgv) (by rw [hfp]; exact hlt')
      · refine Nat.le_trans (Nat.min_le_right _ _) ?_
        refine h.lowb (v, i) hv x hx hxv (fun g hgm hlt' => ?_) w hw hws
        exfalso
        rw [hc] at hgm
        rcases List.mem_cons.1 hgm with rfl | hgm
        · exact Nat.lt_irrefl _ hlt'
        · have := top_lt hI hc hgm
          have hlt' : s.idx v < s.idx g.1 := hlt'
          omega
    · rw [ud_ne hfp]
      refine h.lowb f (hsub f hf) x hx hfx (fun g hgm hlt' => ?_) w hw hws
      by_cases hgv : g.1 = v
      · have hfm : f ∈ cs := (List.mem_cons.1 hf).resolve_left (fun e => hfp (by rw [e]))
        have := hg (p, j) List.mem_cons_self (hptop f hfm)
        have this : s.idx x < s.idx p := this
        rw [hgv]; omega
      · exact hg g (hone g hgm hgv) hlt'
  · by_cases hfp : f.1 = p
    · rw [hfp]
      rcases Nat.le_total (s.low p) (s.low v) with hm | hm
      · obtain ⟨y, hy, e, r⟩ := h.lowe (p, j) hp
        exact ⟨y, hy, by show s.idx y = ud s.low p (min (s.low p) (s.low v)) p; rw [ud_eq, Nat.min_eq_left hm]; exact e, r⟩
      · obtain ⟨y, hy, e, r⟩ := h.lowe (v, i) hv
        exact ⟨y, hy, by show s.idx y = ud s.low p (min (s.low p) (s.low v)) p; rw [ud_eq, Nat.min_eq_right hm]; exact e, (h.gr (p, j) hp v hvs (Nat.le_of_lt hpv)).trans r⟩
    · obtain ⟨y, hy, e, r⟩ := h.lowe f (hsub f hf)
      exact ⟨y, hy, by show s.idx y = ud s.low p (min (s.low p) (s.low v)) f.1; rw [ud_ne hfp]; exact e, r⟩
  · obtain ⟨f, hf, hle, r⟩ := h.tog x hx
    by_cases hfv : f.1 = v
    · obtain ⟨y, hy, e, r2⟩ := h.lowe (v, i) hv
      obtain ⟨f', hf', hle', r3⟩ := h.tog y hy
      have e : s.idx y = s.low v := e
      have hne : f'.1 ≠ v := fun e' => by rw [e'] at hle'; omega
      refine ⟨f', hone f' hf' hne, ?_, ?_⟩
      · show s.idx f'.1 ≤ s.idx x
        rw [hfv] at hle; omega
      · rw [hfv] at r
        exact r.trans (r2.trans r3)
    · exact ⟨f, hone f hf hfv, hle, r⟩

theorem stk_split {v : Nat} (hI : TI N succ s) (hv : v ∈ s.stk) : (∀ x, x ∈ above v s.stk ↔ (x ∈ s.stk ∧ s.idx v ≤ s.idx x)) ∧ (∀ x, x ∈ under v s.stk ↔ (x ∈ s.stk ∧ s.idx x < s.idx v)) ∧ (above v s.stk).Nodup := by
  obtain ⟨pre, h1, h2, h3⟩ := above_under v s.stk hv
  have hd := hI.dec
  rw [h1, List.pairwise_append, List.pairwise_cons] at hd
  obtain ⟨_, ⟨d2, _⟩, d3⟩ := hd
  have hnd := hI.nodup
  have e1 : ∀ x, x ∈ above v s.stk ↔ (x ∈ pre ∨ x = v) := fun x => by rw [h2]; simp
  have e2 : ∀ x, x ∈ s.stk ↔ (x ∈ pre ∨ x = v ∨ x ∈ under v s.stk) := fun x => by
    have e : (x ∈ s.stk) = (x ∈ pre ++ v :: under v s.stk) := congrArg (fun l => x ∈ l) h1
    rw [e, List.mem_append, List.mem_cons]
  have hpre : ∀ x, x ∈ pre → s.idx v < s.idx x := fun x hx => d3 x hx v List.mem_cons_self
  refine ⟨fun x => ?_, fun x => ?_, ?_⟩
  · rw [e1 x]
    constructor
    · rintro (hx | rfl)
      · exact ⟨(e2 x).2 (.inl hx), Nat.le_of_lt (hpre x hx)⟩
      · exact ⟨hv, Nat.le_refl _⟩
    · rintro ⟨hx, hle⟩
      rcases (e2 x).1 hx with hx | rfl | hx
      · exact .inl hx
      · exact .inr rfl
      · have := d2 x hx
        omega
  · constructor
    · exact fun hx => ⟨(e2 x).2 (.inr (.inr hx)), d2 x hx⟩
    · rintro ⟨hx, hlt⟩
      rcases (e2 x).1 hx with hx | rfl | hx
      · have := hpre x hx
        omega
      · exact absurd hlt (Nat.lt_irrefl _)
      · exact hx
  · rw [h2]
    rw [h1, List.nodup_append] at hnd
    rw [List.nodup_append]
    exact ⟨hnd.1, by simp, fun a ha b hb => by
      have : b = v := by simpa using hb
      subst this
      exact fun e => h3 (e ▸ ha)⟩

theorem sortN_mem {l : List Nat} {x : Nat} : x ∈ sortN l ↔ x ∈ l := by unfold sortN; exact List.mem_mergeSort
theorem sortN_lt {l : List Nat} (h : l.Nodup) : (sortN l).Pairwise (· < ·) := by
  have h1 : (sortN l).Pairwise (fun a b => (fun x y : Nat => decide (x ≤ y)) a b = true) := List.pairwise_mergeSort (fun a b c => by simp; omega) (fun a b => by simp; omega) l
  have h2 : (sortN l).Nodup := (List.mergeSort_perm l _).nodup_iff.2 h
  exact (h1.and h2).imp (fun {a b} hab => by
    have h3 : a ≤ b := by simpa using hab.1
    have h4 := hab.2
    omega)
theorem two_le {l : List Nat} {a b : Nat} (ha : a ∈ l) (hb : b ∈ l) (hne : a ≠ b) : 2 ≤ l.length := by
  match l, ha, hb with
  | [x], ha, hb => exact absurd ((List.mem_singleton.1 ha).trans (List.mem_singleton.1 hb).symm) hne
  | _ :: _ :: _, _, _ => simp

theorem SI.pop {v i : Nat} {cs : List (Nat × Nat)} {low' : Nat → Nat} (h : SI n succ s) (hI : TI N succ s) (hc : s.calls = (v, i) :: cs) (hu : (succ v)[i]? = none) (hlow : s.low v = s.idx v) (hl : ∀ f, f ∈ cs → low' f.1 = s.low f.1) :
    SI n succ (popN n { s with calls := cs, low := low' } v) := by
  have hv : (v, i) ∈ s.calls := by rw [hc]; exact List.mem_cons_self
  have hvs : v ∈ s.stk := hI.csub (v, i) hv
  have hsub : ∀ f, f ∈ cs → f ∈ s.calls := fun f hf => by rw [hc]; exact List.mem_cons_of_mem _ hf
  have htop : ∀ f, f ∈ s.calls → s.idx f.1 ≤ s.idx v := fun f hf => by
    rw [hc] at hf
    rcases List.mem_cons.1 hf with rfl | hf
    · exact Nat.le_refl _
    · exact Nat.le_of_lt (top_lt hI hc hf)
  have hone : ∀ g, g ∈ s.calls → g.1 ≠ v → g ∈ cs := fun g hg hne => by
    rw [hc] at hg
    rcases List.mem_cons.1 hg with rfl | hg
    · exact absurd rfl hne
    · exact hg
  have hpr := pr_gone (s := s) hc hu
  obtain ⟨hab, hun, hnd⟩ := stk_split hI hvs
  -- arcs out of what is taken
  have hE1 : ∀ x, x ∈ above v s.stk → ∀ w, w ∈ succ x → w ∈ s.seen ∧ (w ∉ s.stk ∨ w ∈ above v s.stk) := fun x hx w hw => by
    obtain ⟨hxs, hxv⟩ := (hab x).1 hx
    have hp : Pr succ s.calls x w := by
      by_cases e : x = v
      · subst e
        exact .inl ⟨(x, i), hv, rfl, by rw [take_all hc hu]; exact hw⟩
      · refine .inr ⟨fun f hf e' => ?_, hw⟩
        have h1 := htop f hf
        rw [e'] at h1
        exact e (idx_inj_stk hI hxs hvs (by omega))
    refine ⟨h.pseen x hxs w hp, ?_⟩
    by_cases hws : w ∈ s.stk
    · right
      refine (hab w).2 ⟨hws, ?_⟩
      rw [← hlow]
      refine h.lowb (v, i) hv x hxs hxv (fun g hg hlt => ?_) w hp hws
      have := htop g hg
      have hlt : s.idx v < s.idx g.1 := hlt
      omega
    · exact .inl hws
  have hto : ∀ x, x ∈ above v s.stk → Rc succ v x ∧ Rc succ x v := fun x hx => by
    obtain ⟨hxs, hxv⟩ := (hab x).1 hx
    obtain ⟨f, hf, _, r⟩ := h.tog x hxs
    exact ⟨h.gr (v, i) hv x hxs hxv, r.trans (h.gr f hf v hvs (htop f hf))⟩
  have hmax : ∀ t u, t ∈ above v s.stk → Rc succ t u → Rc succ u t → u ∈ above v s.stk := fun t u ht r1 r2 => by
    have hS : u ∈ s.seen ∧ (u ∉ s.stk ∨ u ∈ above v s.stk) := by
      refine r1 (fun y => y ∈ s.seen ∧ (y ∉ s.stk ∨ y ∈ above v s.stk)) ⟨hI.sub t ((hab t).1 ht).1, .inr ht⟩ (fun x y hx hy => ?_)
      rcases hx with ⟨hx1, hx2 | hx2⟩
      · obtain ⟨q1, q2⟩ := h.done x hx1 hx2 y hy
        exact ⟨q1, .inl q2⟩
      · exact hE1 x hx2 y hy
    rcases hS with ⟨hs1, hs2 | hs2⟩
    · exfalso
      have := r2 (fun y => y ∈ s.seen ∧ y ∉ s.stk) ⟨hs1, hs2⟩ (fun x y hx hy => h.done x hx.1 hx.2 y hy)
      exact this.2 ((hab t).1 ht).1
    · exact hs2
  have hsc : ∀ t, t ∈ above v s.stk → ∀ u, u ∈ above v s.stk ↔ (Rc succ t u ∧ Rc succ u t) := fun t ht u => by
    constructor
    · exact fun hu' => ⟨(hto t ht).2.trans (hto u hu').1, (hto u hu').2.trans (hto t ht).1⟩
    · exact fun hr => hmax t u ht hr.1 hr.2
  have hcm : ∀ t, t ∈ sortN (compOf n v s.stk) ↔ (t ∈ above v s.stk ∧ t < n) := fun t => by
    rw [sortN_mem]; unfold compOf; simp
  have hnu : ∀ x, x ∈ above v s.stk → x ∉ under v s.stk := fun x hx hx' => by
    have h1 := ((hab x).1 hx).2
    have h2 := ((hun x).1 hx').2
    omega
  have hfm : ∀ c, c ∈ (popN n { s with calls := cs, low := low' } v).found → c ∈ s.found ∨ (c = sortN (compOf n v s.stk) ∧ 2 ≤ (compOf n v s.stk).length) := fun c hcf => by
    have hcf : c ∈ (if 2 ≤ (compOf n v s.stk).length then sortN (compOf n v s.stk) :: s.found else s.found) := hcf
    split at hcf
    · rename_i h2
      rcases List.mem_cons.1 hcf with rfl | hcf
      · exact .inr ⟨rfl, h2⟩
      · exact .inl hcf
    · exact .inl hcf
  refine ⟨fun x hx hxs w hw => ?_, fun x hx w hw => ?_, fun f hf x hx hfx hg w hw hws => ?_, fun f hf => ?_, fun f hf y hy hfy => ?_, fun x hx => ?_, fun c hcf t ht => ?_, fun c hcf => ?_, ?_, fun t ht hts htn w hwn hwt r1 r2 => ?_⟩
  · have hxs : x ∉ under v s.stk := hxs
    by_cases hx2 : x ∈ s.stk
    · have hxa : x ∈ above v s.stk := (hab x).2 ⟨hx2, by
        rcases Nat.lt_or_ge (s.idx x) (s.idx v) with hlt | hge
        · exact absurd ((hun x).2 ⟨hx2, hlt⟩) hxs
        · exact hge⟩
      obtain ⟨q1, q2⟩ := hE1 x hxa w hw
      refine ⟨q1, fun hm => ?_⟩
      rcases q2 with q2 | q2
      · exact q2 ((hun w).1 hm).1
      · exact hnu w q2 hm
    · obtain ⟨q1, q2⟩ := h.done x hx hx2 w hw
      exact ⟨q1, fun hm => q2 ((hun w).1 hm).1⟩
  · exact h.pseen x ((hun x).1 hx).1 w (hpr x w hw)
  · obtain ⟨hxs, hxv⟩ := (hun x).1 hx
    show low' f.1 ≤ s.idx w
    rw [hl f hf]
    refine h.lowb f (hsub f hf) x hxs hfx (fun g hgm hlt' => ?_) w (hpr x w hw) ((hun w).1 hws).1
    by_cases hgv : g.1 = v
    · rw [hgv]; exact hxv
    · exact hg g (hone g hgm hgv) hlt'
  · obtain ⟨y, hy, e, r⟩ := h.lowe f (hsub f hf)
    refine ⟨y, (hun y).2 ⟨hy, ?_⟩, ?_, r⟩
    · have h1 := hI.low f.1
      have h2 := top_lt hI hc hf
      omega
    · show s.idx y = low' f.1
      rw [hl f hf]; exact e
  · exact h.gr f (hsub f hf) y ((hun y).1 hy).1 hfy
  · obtain ⟨hxs, hxv⟩ := (hun x).1 hx
    obtain ⟨f, hf, hle, r⟩ := h.tog x hxs
    exact ⟨f, hone f hf (fun e => by rw [e] at hle; omega), hle, r⟩
  · rcases hfm c hcf with hcf | ⟨rfl, _⟩
    · obtain ⟨q1, q2, q3⟩ := h.fs c hcf t ht
      exact ⟨q1, fun hm => q2 ((hun t).1 hm).1, q3⟩
    · obtain ⟨hta, htn⟩ := (hcm t).1 ht
      refine ⟨hI.sub t ((hab t).1 hta).1, hnu t hta, fun u => ?_⟩
      rw [hcm u, hsc t hta u]
      exact And.comm
  · rcases hfm c hcf with hcf | ⟨rfl, h2⟩
    · exact h.fo c hcf
    · refine ⟨sortN_lt ?_, by rw [sortN_length]; exact h2⟩
      unfold compOf
      exact hnd.filter _
  · show (if 2 ≤ (compOf n v s.stk).length then sortN (compOf n v s.stk) :: s.found else s.found).Pairwise _
    split
    · rw [List.pairwise_cons]
      refine ⟨fun d hd t ht htd => ?_, h.fd⟩
      exact (h.fs d hd t htd).2.1 ((hab t).1 ((hcm t).1 ht).1).1
    · exact h.fd
  · have hts : t ∉ under v s.stk := hts
    by_cases ht2 : t ∈ s.stk
    · have hta : t ∈ above v s.stk := (hab t).2 ⟨ht2, by
        rcases Nat.lt_or_ge (s.idx t) (s.idx v) with hlt | hge
        · exact absurd ((hun t).2 ⟨ht2, hlt⟩) hts
        · exact hge⟩
      have hwa := hmax t w hta r1 r2
      have h2 : 2 ≤ (compOf n v s.stk).length := by
        rw [← sortN_length]
        exact two_le ((hcm t).2 ⟨hta, htn⟩) ((hcm w).2 ⟨hwa, hwn⟩) (Ne.symm hwt)
      refine ⟨sortN (compOf n v s.stk), ?_, (hcm t).2 ⟨hta, htn⟩⟩
      show _ ∈ (if 2 ≤ (compOf n v s.stk).length then sortN (compOf n v s.stk) :: s.found else s.found)
      rw [if_pos h2]; exact List.mem_cons_self
    · obtain ⟨c, hcf, htc⟩ := h.fa t ht ht2 htn w hwn hwt r1 r2
      refine ⟨c, ?_, htc⟩
      show _ ∈ (if 2 ≤ (compOf n v s.stk).length then sortN (compOf n v s.stk) :: s.found else s.found)
      split
      · exact List.mem_cons_of_mem _ hcf
      · exact hcf

theorem SI.step (h : SI n succ s) (hI : TI N succ s) (hne : s.calls ≠ []) : SI n succ (step n succ s) := by
  obtain ⟨⟨v, i⟩, cs, hc⟩ := List.exists_cons_of_ne_nil hne
  have hv : (v, i) ∈ s.calls := by rw [hc]; exact List.mem_cons_self
  have hvs : v ∈ s.stk := hI.csub (v, i) hv
  cases hu : (succ v)[i]? with
  | some u =>
    have hus : u ∈ succ v := List.mem_of_getElem? hu
    by_cases h0 : s.idx u = 0
    · rw [step_open hc hu h0]
      refine h.openU hI h0 (fun f hf => ?_) (fun g hg => ?_) (fun x w hw => ?_) (fun f hf => ?_)
      · rcases List.mem_cons.1 hf with rfl | hf
        · exact ⟨(v, i), hv, rfl⟩
        · exact ⟨f, by rw [hc]; exact List.mem_cons_of_mem _ hf, rfl⟩
      · rw [hc] at hg
        rcases List.mem_cons.1 hg with rfl | hg
        · exact ⟨(v, i + 1), List.mem_cons_self, rfl⟩
        · exact ⟨g, List.mem_cons_of_mem _ hg, rfl⟩
      · rw [hc]
        exact (pr_next hu x w hw).imp_right (fun q => q.2)
      · rcases List.mem_cons.1 hf with rfl | hf
        · exact Rc.edge hus
        · exact (h.gr f (by rw [hc]; exact List.mem_cons_of_mem _ hf) v hvs (Nat.le_of_lt (top_lt hI hc hf))).trans (Rc.edge hus)
    · cases hon : s.on u with
      | true =>
        rw [step_low hc hu h0 hon]
        have hsu : u ∈ s.stk := (hI.on u).1 hon
        refine h.next hI hc hu h0 (fun x => ?_) (fun _ => ?_) (fun f hf => ?_)
        · by_cases e : x = v
          · subst e; rw [ud_eq]; exact Nat.min_le_left _ _
          · rw [ud_ne e]; exact Nat.le_refl _
        · rw [ud_eq]; exact Nat.min_le_right _ _
        · by_cases e : f.1 = v
          · rw [e, ud_eq]
            rcases Nat.le_total (s.low v) (s.idx u) with hm | hm
            · obtain ⟨y, hy, e', r⟩ := h.lowe (v, i) hv
              exact ⟨y, hy, by rw [Nat.min_eq_left hm]; exact e', r⟩
            · exact ⟨u, hsu, by rw [Nat.min_eq_right hm], Rc.edge hus⟩
          · rw [ud_ne e]; exact h.lowe f hf
      | false =>
        rw [step_skip hc hu h0 hon]
        refine h.next (low' := s.low) hI hc hu h0 (fun x => Nat.le_refl _) (fun hm => ?_) (fun f hf => h.lowe f hf)
        rw [(hI.on u).2 hm] at hon; cases hon
  | none =>
    by_cases he : lowUp s v cs v = s.idx v
    · rw [step_pop hc hu he]
      cases cs with
      | nil => exact h.pop hI hc hu he (fun f hf => by cases hf)
      | cons f cs =>
        obtain ⟨p, j⟩ := f
        have hpv : s.idx p < s.idx v := top_lt hI hc (f := (p, j)) List.mem_cons_self
        have hne' : p ≠ v := fun e => by rw [e] at hpv; exact Nat.lt_irrefl _ hpv
        rw [lowUp_self (f := (p, j)) hne'] at he
        refine h.pop hI hc hu he (fun f hf => ?_)
        show ud s.low p (min (s.low p) (s.low v)) f.1 = s.low f.1
        by_cases e : f.1 = p
        · rw [e, ud_eq]
          have := hI.low p
          rw [Nat.min_eq_left (by omega)]
        · rw [ud_ne e]
    · rw [step_back hc hu he]
      cases cs with
      | nil => exact absurd (hI.root hc).1 he
      | cons f cs =>
        obtain ⟨p, j⟩ := f
        have hpv : s.idx p < s.idx v := top_lt hI hc (f := (p, j)) List.mem_cons_self
        have hne' : p ≠ v := fun e => by rw [e] at hpv; exact Nat.lt_irrefl _ hpv
        rw [lowUp_self (f := (p, j)) hne'] at he
        have := hI.low v
        exact h.back hI hc hu (by omega)

/-- Tarjan's walk is right. -/
theorem found_scc (hbd : ∀ v, v < N → ∀ u, u ∈ succ v → u < N) {l : List Nat} {s' : TS} (hl : ∀ r, r ∈ l → r < N) (hO : Outer n succ l Ybulkajny.init s') : Clean N succ s' ∧ SI n succ s' :=
  Outer.ind hbd (fun s r hC h0 _ h => h.root hC h0) (fun s hI hne h => h.step hI hne) l Ybulkajny.init s' hl Clean.init SI.init hO
end
end Go.Proofs.Ybulkajny
