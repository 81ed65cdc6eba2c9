import Derived.Sort.LotB
import Derived.Sort.LotA
namespace Go.Proofs.Ybulkajny
open Go.Sort

section
variable {α : Type} [Inhabited α]

/-- container/heap.up, from place j; 'f' bounds the rounds. -/
def heapUp (lt : α → α → Bool) : Nat → Nat → Array α → Array α
  | 0, _, d => d
  | f + 1, j, d => if j = 0 then d else if lt d[j]! d[(j - 1) / 2]! then heapUp lt f ((j - 1) / 2) (swp d ((j - 1) / 2) j) else d

/-- Every node among the first n is not above any child of its. -/
def IsHeap (lt : α → α → Bool) (n : Nat) (d : Array α) : Prop := ∀ i k, (k = 2 * i + 1 ∨ k = 2 * i + 2) → k < n → lt d[k]! d[i]! = false

theorem size_heapUp (lt : α → α → Bool) : ∀ (f j : Nat) (d : Array α), (heapUp lt f j d).size = d.size := by
  intro f
  induction f with
  | zero => intro _ _; rfl
  | succ f ih =>
    intro j d
    unfold heapUp
    split
    · rfl
    · split
      · rw [ih, size_swp]
      · rfl

theorem heapUp_stop (lt : α → α → Bool) (f j : Nat) (d : Array α) (h : j = 0 ∨ lt d[j]! d[(j - 1) / 2]! = false) : heapUp lt f j d = d := by
  cases f with
  | zero => rfl
  | succ f =>
    unfold heapUp
    rcases h with h | h
    · rw [if_pos h]
    · split
      · rfl
      · rw [if_neg (by rw [h]; simp)]

theorem heapUp_go (lt : α → α → Bool) (f j : Nat) (d : Array α) (h0 : j ≠ 0) (h : lt d[j]! d[(j - 1) / 2]! = true) : heapUp lt (f + 1) j d = heapUp lt f ((j - 1) / 2) (swp d ((j - 1) / 2) j) := by
  rw [heapUp, if_neg h0, if_pos h]

/-- More rounds than wanted turn nothing. -/
theorem heapUp_fuel (lt : α → α → Bool) : ∀ (f g j : Nat) (d : Array α), j ≤ f → j ≤ g → heapUp lt f j d = heapUp lt g j d := by
  intro f
  induction f with
  | zero =>
    intro g j d hf _
    obtain rfl : j = 0 := by omega
    rw [heapUp_stop _ _ _ _ (.inl rfl), heapUp_stop _ _ _ _ (.inl rfl)]
  | succ f ih =>
    intro g j d hf hg
    by_cases h0 : j = 0
    · rw [heapUp_stop _ _ _ _ (.inl h0), heapUp_stop _ _ _ _ (.inl h0)]
    · cases h : lt d[j]! d[(j - 1) / 2]! with
      | false => rw [heapUp_stop _ _ _ _ (.inr h), heapUp_stop _ _ _ _ (.inr h)]
      | true =>
        obtain ⟨g', rfl⟩ : ∃ g', g = g' + 1 := ⟨g - 1, by omega⟩
        rw [heapUp_go _ _ _ _ h0 h, heapUp_go _ _ _ _ h0 h]
        exact ih g' _ _ (by omega) (by omega)

/-- A heap but at j, whose children are not below j's parent: 'up' makes it whole. -/
theorem heapUp_heap {lt : α → α → Bool} (h : SWO lt) (n : Nat) : ∀ (f j : Nat) (d : Array α), j ≤ f → j < n → n ≤ d.size →
    (∀ i k, (k = 2 * i + 1 ∨ k = 2 * i + 2) → k < n → k ≠ j → lt d[k]! d[i]! = false) →
    (0 < j → ∀ k, (k = 2 * j + 1 ∨ k = 2 * j + 2) → k < n → lt d[k]! d[(j - 1) / 2]! = false) →
    IsHeap lt n (heapUp lt f j d) ∧ PermIn 0 n d (heapUp lt f j d) := by
  intro f
  induction f with
  | zero =>
    intro j d hf hj hn P1 _
    obtain rfl : j = 0 := by omega
    rw [heapUp_stop _ _ _ _ (.inl rfl)]
    exact ⟨fun i k hk hkn => P1 i k hk hkn (by omega), permIn_refl _ _ _⟩
  | succ f ih =>
    intro j d hf hj hn P1 P2
    by_cases h0 : j = 0
    · rw [heapUp_stop _ _ _ _ (.inl h0)]
      exact ⟨fun i k hk hkn => P1 i k hk hkn (by omega), permIn_refl _ _ _⟩
    cases hl : lt d[j]! d[(j - 1) / 2]! with
    | false =>
      rw [heapUp_stop _ _ _ _ (.inr hl)]
      refine ⟨fun i k hk hkn => ?_, permIn_refl _ _ _⟩
      by_cases hkj : k = j
      · subst hkj
        obtain rfl : i = (k - 1) / 2 := by omega
        exact hl
      · exact P1 i k hk hkn hkj
    | true =>
      rw [heapUp_go _ _ _ _ h0 hl]
      have hp : (j - 1) / 2 < j := by omega
      generalize hpe : (j - 1) / 2 = p at *
      have gp : (swp d p j)[p]! = d[j]! := swp_left d _ _ (by omega) (by omega)
      have gj : (swp d p j)[j]! = d[p]! := swp_right d _ _ (by omega)
      have go : ∀ k, k ≠ p → k ≠ j → (swp d p j)[k]! = d[k]! := fun k h1 h2 => swp_other d _ _ _ h1 h2
      have asym : lt d[p]! d[j]! = false := h.asym hl
      refine (fun R => ⟨R.1, permIn_trans _ _ _ _ _ (swp_permIn d 0 n p j (Nat.zero_le _) (by omega) (Nat.zero_le _) hj hn) R.2⟩) (ih p (swp d p j) (by omega) (by omega) (by rw [size_swp]; exact hn) ?_ ?_)
      · intro i k hk hkn hkp
        by_cases hip : i = p
        · subst hip
          rw [gp]
          by_cases hkj : k = j
          · subst hkj; rw [gj]; exact asym
          · rw [go k hkp hkj]
            exact h.ntrans _ _ _ (P1 i k hk hkn hkj) asym
        · by_cases hij : i = j
          · subst hij
            rw [gj, go k hkp (by omega)]
            exact P2 (by omega) k hk hkn
          · have hkj : k ≠ j := by omega
            rw [go k hkp hkj, go i hip hij]
            exact P1 i k hk hkn hkj
      · intro hp0 k hk hkn
        have hg : (swp d p j)[(p - 1) / 2]! = d[(p - 1) / 2]! := go _ (by omega) (by omega)
        have hpp : lt d[p]! d[(p - 1) / 2]! = false := P1 ((p - 1) / 2) p (by omega) (by omega) (by omega)
        rw [hg]
        by_cases hkj : k = j
        · subst hkj; rw [gj]; exact hpp
        · rw [go k (by omega) hkj]
          exact h.ntrans _ _ _ (P1 p k hk hkn hkj) hpp

end

/-- 'greater' for the library's own sift, whose heaps bear the greatest on top. -/
def revLt {α : Type} (lt : α → α → Bool) : α → α → Bool := fun x y => lt y x

theorem SWO.rev {α : Type} {lt : α → α → Bool} (h : SWO lt) : SWO (revLt lt) :=
  ⟨fun x => h.irrefl x, fun x y z h1 h2 => h.trans z y x h2 h1, fun x y z h1 h2 => h.ntrans z y x h2 h1⟩

section
variable {α : Type} [Inhabited α]

/-- container/heap.down: the hole at 'root' goes down among the first n. -/
def heapDown (lt : α → α → Bool) (n root : Nat) (d : Array α) : Array α := siftDown (revLt lt) n 0 root d

theorem size_heapDown (lt : α → α → Bool) (n : Nat) : ∀ (m root : Nat) (d : Array α), n - root ≤ m → (heapDown lt n root d).size = d.size := by
  unfold heapDown
  intro m
  induction m with
  | zero => intro root d hm; rw [siftDown, dif_pos (by omega)]
  | succ m ih =>
    intro root d hm
    rw [siftDown]
    split
    · rfl
    · split
      · split
        · rfl
        · split
          · rw [ih _ _ (by omega), size_swp]
          · rfl
      · split
        · rfl
        · rw [ih _ _ (by omega), size_swp]

/-- A heap but at the hole: 'down' makes it whole. -/
theorem heapDown_heap {lt : α → α → Bool} (h : SWO lt) (n root : Nat) (d : Array α) (hn : n ≤ d.size)
    (P1 : ∀ i k, (k = 2 * i + 1 ∨ k = 2 * i + 2) → k < n → i ≠ root → lt d[k]! d[i]! = false)
    (P2 : 0 < root → ∀ k, (k = 2 * root + 1 ∨ k = 2 * root + 2) → k < n → lt d[k]! d[(root - 1) / 2]! = false) :
    IsHeap lt n (heapDown lt n root d) ∧ PermIn 0 n d (heapDown lt n root d) := by
  have R := sift (SWO.rev h) n 0 0 (n - root) root d (Nat.le_refl _) (by omega) (Nat.zero_le _)
    (fun i _ hi hir k hk hkn => by simpa [revLt] using P1 i k hk hkn hir)
    (fun p _ hp c hc hcn => by
      have e : p = (root - 1) / 2 := by omega
      subst e
      simpa [revLt] using P2 (by omega) c hc hcn)
  refine ⟨fun i k hk hkn => ?_, by simpa [heapDown] using R.2⟩
  have := R.1 i (Nat.zero_le _) (by omega) k hk hkn
  simpa [revLt, heapDown] using this

/-- The top of a heap is not above anything in it. -/
theorem heap_top {lt : α → α → Bool} (h : SWO lt) {n : Nat} {d : Array α} (hd : IsHeap lt n d) (i : Nat) (hi : i < n) : lt d[i]! d[0]! = false := by
  have := root_max (SWO.rev h) (hi := n) (F := 0) (d := d) (fun i _ k hk hkn => by simpa [revLt] using hd i k hk hkn) i i (Nat.le_refl _) hi
  simpa [revLt] using this

theorem perm_of_permIn {n : Nat} {d d' : Array α} (hn : n = d.size) (h : PermIn 0 n d d') : d'.toList.Perm d.toList := by
  have h3 := h.2.2
  subst hn
  rw [Array.extract_eq_self_of_le (by rw [h.1]; exact Nat.le_refl _), Array.extract_eq_self_of_le (Nat.le_refl _)] at h3
  exact h3

theorem push_get (d : Array α) (x : α) (k : Nat) (hk : k < d.size) : (d.push x)[k]! = d[k]! := by
  rw [getElem!_pos _ k (by simp; omega), getElem!_pos d k hk, Array.getElem_push_lt hk]

/-- Push: a heap again, with one element more. -/
theorem heap_push {lt : α → α → Bool} (h : SWO lt) (d : Array α) (x : α) (hd : IsHeap lt d.size d) :
    IsHeap lt (d.size + 1) (heapUp lt d.size d.size (d.push x)) ∧ (heapUp lt d.size d.size (d.push x)).toList.Perm (x :: d.toList) := by
  have R := heapUp_heap h (d.size + 1) d.size d.size (d.push x) (Nat.le_refl _) (by omega) (by simp)
    (fun i k hk hkn hkj => by rw [push_get d x k (by omega), push_get d x i (by omega)]; exact hd i k hk (by omega))
    (fun _ k hk hkn => by omega)
  refine ⟨R.1, (perm_of_permIn (by simp) R.2).trans ?_⟩
  rw [Array.toList_push]
  exact List.perm_append_singleton _ _

theorem pop_get (d : Array α) (k : Nat) (hk : k + 1 < d.size) : d.pop[k]! = d[k]! := by
  rw [getElem!_pos _ k (by simp; omega), getElem!_pos d k (by omega), Array.getElem_pop]

/-- Pop: what comes out is not above anything that stays; what stays is a heap. -/
theorem heap_pop {lt : α → α → Bool} (h : SWO lt) (d : Array α) (n : Nat) (hn : d.size = n + 1) (hd : IsHeap lt d.size d) :
    (heapDown lt n 0 (swp d 0 n)).size = n + 1 ∧ IsHeap lt n (heapDown lt n 0 (swp d 0 n)).pop ∧
    d.toList.Perm ((heapDown lt n 0 (swp d 0 n))[n]! :: (heapDown lt n 0 (swp d 0 n)).pop.toList) ∧ ∀ y ∈ d.toList, lt y (heapDown lt n 0 (swp d 0 n))[n]! = false := by
  have hsz : (heapDown lt n 0 (swp d 0 n)).size = n + 1 := by rw [size_heapDown lt n n 0 _ (by omega), size_swp, hn]
  have gn : (swp d 0 n)[n]! = d[0]! := swp_right d _ _ (by omega)
  have go : ∀ k, k ≠ 0 → k ≠ n → (swp d 0 n)[k]! = d[k]! := fun k h1 h2 => swp_other d _ _ _ h1 h2
  have R := heapDown_heap h n 0 (swp d 0 n) (by rw [size_swp]; omega)
    (fun i k hk hkn hi => by rw [go k (by omega) (by omega), go i hi (by omega)]; exact hd i k hk (by omega))
    (fun h0 => absurd h0 (by omega))
  have hv : (heapDown lt n 0 (swp d 0 n))[n]! = d[0]! := by rw [R.2.2.1 n (.inr (Nat.le_refl _)), gn]
  have hp : (heapDown lt n 0 (swp d 0 n)).toList.Perm d.toList :=
    (perm_of_permIn (n := n + 1) (by rw [size_swp, hn]) (permIn_mono _ _ 0 n 0 (n + 1) (Nat.le_refl _) (by omega) (by rw [size_swp]; omega) R.2)).trans
      (perm_of_permIn (n := n + 1) hn.symm (swp_permIn d 0 (n + 1) 0 n (Nat.le_refl _) (by omega) (by omega) (by omega) (by omega)))
  refine ⟨hsz, fun i k hk hkn => ?_, ?_, fun y hy => ?_⟩
  · rw [pop_get _ k (by omega), pop_get _ i (by omega)]
    exact R.1 i k hk hkn
  · refine hp.symm.trans ?_
    have e : (heapDown lt n 0 (swp d 0 n)).toList = (heapDown lt n 0 (swp d 0 n)).pop.toList ++ [(heapDown lt n 0 (swp d 0 n))[n]!] := by
      apply List.ext_getElem?
      intro j
      by_cases hj : j < n
      · simp [List.getElem?_append, hsz, hj]
      · by_cases hjn : j = n
        · subst hjn
          simp [hsz]
        · rw [List.getElem?_eq_none (by simp [hsz]; omega), List.getElem?_eq_none (by simp [hsz]; omega)]
    rw [e]
    exact List.perm_append_singleton _ _
  · rw [hv]
    obtain ⟨i, hi, rfl⟩ := List.getElem_of_mem hy
    have hi' : i < d.size := by simpa using hi
    have := heap_top h hd i hi'
    rw [getElem!_pos d i hi'] at this
    simpa using this

end

/-- The head of what is left to pop is the head of what is left of the sorted list. -/
theorem pop_is_next (d : Array Int) (n : Nat) (hn : d.size = n + 1) (hd : IsHeap ltInt d.size d) (s : Int) (S : List Int) (hS : (s :: S).Pairwise (· ≤ ·)) (hp : d.toList.Perm (s :: S)) :
    (heapDown ltInt n 0 (swp d 0 n))[n]! = s ∧ (heapDown ltInt n 0 (swp d 0 n)).pop.toList.Perm S := by
  obtain ⟨_, _, h3, h4⟩ := heap_pop swo_ltInt d n hn hd
  have hmem : (heapDown ltInt n 0 (swp d 0 n))[n]! ∈ d.toList := h3.mem_iff.2 (List.mem_cons_self ..)
  have hle : s ≤ (heapDown ltInt n 0 (swp d 0 n))[n]! := by
    rcases List.mem_cons.1 (hp.mem_iff.1 hmem) with h | h
    · omega
    · exact (List.pairwise_cons.1 hS).1 _ h
  have hge : ltInt s (heapDown ltInt n 0 (swp d 0 n))[n]! = false := h4 s (hp.mem_iff.2 (List.mem_cons_self ..))
  have he : (heapDown ltInt n 0 (swp d 0 n))[n]! = s := by
    simp [ltInt] at hge; omega
  refine ⟨he, ?_⟩
  have := h3.symm.trans hp
  rw [he] at this
  exact (List.perm_cons _).1 this

end Go.Proofs.Ybulkajny
