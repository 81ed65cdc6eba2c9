import Derived.Test.YbulkajnyScc
import Derived.Test.YbulkajnyRc
namespace Go.Proofs.Ybulkajny
set_option linter.unusedVariables false

/-- Warshall's closure. -/
def fw (A : Nat → Nat → Bool) : Nat → Nat → Nat → Bool
  | 0, i, j => A i j
  | k + 1, i, j => fw A k i j || (fw A k i k && fw A k k j)
theorem fw_mono {A : Nat → Nat → Bool} {i j : Nat} (h : A i j = true) : ∀ k, fw A k i j = true
  | 0 => h
  | k + 1 => by simp [fw, fw_mono h k]
theorem fw_succ {A : Nat → Nat → Bool} {k i j : Nat} : fw A (k + 1) i j = true ↔ (fw A k i j = true ∨ (fw A k i k = true ∧ fw A k k j = true)) := by simp [fw]
theorem fw_trans {A : Nat → Nat → Bool} : ∀ (k m : Nat), m < k → ∀ i j, fw A k i m = true → fw A k m j = true → fw A k i j = true
  | 0, m, hm, _, _, _, _ => absurd hm (Nat.not_lt_zero _)
  | k + 1, m, hm, i, j, h1, h2 => by
    rw [fw_succ] at h1 h2 ⊢
    by_cases e : m = k
    · subst e
      have q1 : fw A m i m = true := h1.elim (fun q => q) (fun q => q.1)
      have q2 : fw A m m j = true := h2.elim (fun q => q) (fun q => q.2)
      exact .inr ⟨q1, q2⟩
    · have ih := fw_trans (A := A) k m (by omega)
      rcases h1 with h1 | ⟨h1, h1'⟩
      · rcases h2 with h2 | ⟨h2, h2'⟩
        · exact .inl (ih i j h1 h2)
        · exact .inr ⟨ih i k h1 h2, h2'⟩
      · rcases h2 with h2 | ⟨h2, h2'⟩
        · exact .inr ⟨h1, ih k j h1' h2⟩
        · exact .inr ⟨h1, h2'⟩
theorem fw_rc {A : Nat → Nat → Bool} {succ : Nat → List Nat} (h : ∀ i j, A i j = true → Rc succ i j) : ∀ (k i j : Nat), fw A k i j = true → Rc succ i j
  | 0, i, j, hA => h i j hA
  | k + 1, i, j, hA => by
    rw [fw_succ] at hA
    rcases hA with hA | ⟨h1, h2⟩
    · exact fw_rc h k i j hA
    · exact (fw_rc h k i k h1).trans (fw_rc h k k j h2)

/-- The keys that l holds, as bits. -/
def bitsOf (l : List Nat) : Nat → Bool := fun b => l.any (fun x => x % 4 == b)
def share (l m : List Nat) : Bool := l.any (fun x => m.any (fun y => x % 4 == y % 4))
theorem share_iff {l m : List Nat} : share l m = true ↔ ∃ x, x ∈ l ∧ ∃ y, y ∈ m ∧ x % 4 = y % 4 := by simp [share]

/-- The law's own arcs. -/
def adj (set : List Nat) (rv wv : Nat → List Nat) (i j : Nat) : Bool := decide (i ∈ set) && decide (j ∈ set) && decide (i ≠ j) && share (rv i) (wv j)
theorem adj_iff {set : List Nat} {rv wv : Nat → List Nat} {i j : Nat} : adj set rv wv i j = true ↔ (i ∈ set ∧ j ∈ set ∧ i ≠ j ∧ share (rv i) (wv j) = true) := by
  simp [adj, and_assoc]

section
variable {n : Nat} {set ks : List Nat} {rv wv rds wrs : Nat → List Nat}
theorem share_key {a b : Nat} (hr : Spec ks (rv a) (rds a)) (hw : Spec ks (wv b) (wrs b)) : share (rv a) (wv b) = true ↔ ∃ k, k ∈ rds a ∧ k ∈ wrs b := by
  rw [share_iff]
  constructor
  · rintro ⟨x, hx, y, hy, e⟩
    obtain ⟨k, hk⟩ := List.getElem?_of_mem (hr.met x hx)
    exact ⟨k, (hr.iff k).2 ⟨x, hx, hk⟩, (hw.iff k).2 ⟨y, hy, by rw [hk, e]⟩⟩
  · rintro ⟨k, h1, h2⟩
    obtain ⟨x, hx, e1⟩ := (hr.iff k).1 h1
    obtain ⟨y, hy, e2⟩ := (hw.iff k).1 h2
    rw [e1] at e2
    injection e2 with e2
    exact ⟨x, hx, y, hy, e2⟩
theorem adj_rc (hsn : ∀ t, t ∈ set → t < n) (hsp : ∀ t, t ∈ set → Spec ks (rv t) (rds t) ∧ Spec ks (wv t) (wrs t)) (i j : Nat) (h : adj set rv wv i j = true) : Rc (succF n set rds wrs) i j := by
  obtain ⟨hi, hj, _, hs⟩ := adj_iff.1 h
  obtain ⟨k, h1, h2⟩ := (share_key (hsp i hi).1 (hsp j hj).2).1 hs
  have e1 : n + k ∈ succF n set rds wrs i := by
    unfold succF
    rw [if_pos (hsn i hi)]
    exact List.mem_map.2 ⟨k, h1, rfl⟩
  have e2 : j ∈ succF n set rds wrs (n + k) := by
    unfold succF
    rw [if_neg (by omega), Nat.add_sub_cancel_left]
    exact mem_wOf.2 ⟨hj, h2⟩
  exact (Rc.edge e1).trans (Rc.edge e2)
theorem rc_adj (hsn : ∀ t, t ∈ set → t < n) (hsp : ∀ t, t ∈ set → Spec ks (rv t) (rds t) ∧ Spec ks (wv t) (wrs t)) {i j : Nat} (hi : i ∈ set) (hj : j < n) (h : Rc (succF n set rds wrs) i j) : i = j ∨ fw (adj set rv wv) n i j = true := by
  have hS := h (fun x => (x < n → x ∈ set ∧ (i = x ∨ fw (adj set rv wv) n i x = true)) ∧ (n ≤ x → ∃ y, y ∈ set ∧ (i = y ∨ fw (adj set rv wv) n i y = true) ∧ (x - n) ∈ rds y)) ⟨fun _ => ⟨hi, .inl rfl⟩, fun hn => absurd (hsn i hi) (by omega)⟩ (fun x y hx hy => ?_)
  · exact (hS.1 hj).2
  · unfold succF at hy
    split at hy
    · rename_i hxn
      obtain ⟨k, hk, rfl⟩ := List.mem_map.1 hy
      obtain ⟨hxs, hq⟩ := hx.1 hxn
      exact ⟨fun hlt => absurd hlt (by omega), fun _ => ⟨x, hxs, hq, by rw [Nat.add_sub_cancel_left]; exact hk⟩⟩
    · rename_i hxn
      obtain ⟨hys, hyw⟩ := mem_wOf.1 hy
      obtain ⟨z, hzs, hz, hzk⟩ := hx.2 (by omega)
      refine ⟨fun _ => ⟨hys, ?_⟩, fun hn => absurd (hsn y hys) (by omega)⟩
      by_cases e : z = y
      · rw [← e]; exact hz
      · have ha : adj set rv wv z y = true := adj_iff.2 ⟨hzs, hys, e, (share_key (hsp z hzs).1 (hsp y hys).2).2 ⟨_, hzk, hyw⟩⟩
        have hf := fw_mono ha n
        rcases hz with rfl | hz
        · exact .inr hf
        · exact .inr (fw_trans n z (hsn z hzs) i y hz hf)
/-- Mutual reach, as the law's closure says it. -/
theorem mutual_iff (hsn : ∀ t, t ∈ set → t < n) (hsp : ∀ t, t ∈ set → Spec ks (rv t) (rds t) ∧ Spec ks (wv t) (wrs t)) {i j : Nat} (hi : i ∈ set) (hj : j ∈ set) :
    (i = j ∨ (fw (adj set rv wv) n i j = true ∧ fw (adj set rv wv) n j i = true)) ↔ (Rc (succF n set rds wrs) i j ∧ Rc (succF n set rds wrs) j i) := by
  constructor
  · rintro (rfl | ⟨h1, h2⟩)
    · exact ⟨Rc.refl _ _, Rc.refl _ _⟩
    · exact ⟨fw_rc (adj_rc hsn hsp) n i j h1, fw_rc (adj_rc hsn hsp) n j i h2⟩
  · rintro ⟨h1, h2⟩
    rcases rc_adj hsn hsp hi (hsn j hj) h1 with e | q1
    · exact .inl e
    · rcases rc_adj hsn hsp hj (hsn i hi) h2 with e | q2
      · exact .inl e.symm
      · exact .inr ⟨q1, q2⟩
/-- A transaction that something else comes to is in the set. -/
theorem rc_in {u t : Nat} (h : Rc (succF n set rds wrs) u t) (hne : u ≠ t) (ht : t < n) : t ∈ set := by
  have := h (fun x => u = x ∨ (x < n → x ∈ set)) (.inl rfl) (fun x y hx hy => by
    right
    intro hyn
    unfold succF at hy
    split at hy
    · obtain ⟨k, _, rfl⟩ := List.mem_map.1 hy
      omega
    · exact (mem_wOf.1 hy).1)
  rcases this with e | h
  · exact absurd e hne
  · exact h ht
end

theorem nodup_sub : ∀ (l m : List Nat), l.Nodup → (∀ x, x ∈ l → x ∈ m) → l.length ≤ m.length
  | [], _, _, _ => Nat.zero_le _
  | x :: l, m, hd, hs => by
    have hx := hs x List.mem_cons_self
    rw [List.nodup_cons] at hd
    have := nodup_sub l (m.erase x) hd.2 (fun y hy => by
      have hne : y ≠ x := fun e => hd.1 (by rw [← e]; exact hy)
      exact (List.mem_erase_of_ne hne).2 (hs y (List.mem_cons_of_mem _ hy)))
    rw [List.length_erase_of_mem hx] at this
    have : 0 < m.length := List.length_pos_of_mem hx
    simp
    omega
theorem same_length {l m : List Nat} (hl : l.Nodup) (hm : m.Nodup) (h : ∀ x, x ∈ l ↔ x ∈ m) : l.length = m.length :=
  Nat.le_antisymm (nodup_sub l m hl (fun x hx => (h x).1 hx)) (nodup_sub m l hm (fun x hx => (h x).2 hx))

/-- The nodes of the roots are seen at the end. -/
theorem Outer.covers {n N : Nat} {succ : Nat → List Nat} (hbd : ∀ v, v < N → ∀ u, u ∈ succ v → u < N) : ∀ (l : List Nat) (s s' : TS), (∀ r, r ∈ l → r < N) → Clean N succ s → Outer n succ l s s' → ∀ r, r ∈ l → r ∈ s'.seen
  | [], _, _, _, _, _, r, hr => by cases hr
  | a :: l, s, s', hl, hC, ⟨m, hp, hO⟩, r, hr => by
    have hstep : ∀ x, ∀ s, TI N succ s → s.calls ≠ [] → x ∈ s.seen → x ∈ (step n succ s).seen := fun x s _ hne hx => by
      obtain ⟨⟨v, i⟩, cs, hc⟩ := List.exists_cons_of_ne_nil hne
      cases hu : (succ v)[i]? with
      | some u =>
        by_cases h0 : s.idx u = 0
        · rw [step_open hc hu h0]; exact List.mem_cons_of_mem _ hx
        · cases hon : s.on u with
          | true => rw [step_low hc hu h0 hon]; exact hx
          | false => rw [step_skip hc hu h0 hon]; exact hx
      | none =>
        by_cases he : lowUp s v cs v = s.idx v
        · rw [step_pop hc hu he]; exact hx
        · rw [step_back hc hu he]; exact hx
    have ha := hl a List.mem_cons_self
    have hm : Clean N succ m ∧ a ∈ m.seen := by
      rcases hp with ⟨h0, rfl⟩ | ⟨h0, k, hk, hc⟩
      · exact ⟨hC, Classical.byContradiction fun q => h0 ((hC.idx0 a).2 q)⟩
      · have hI := hC.toTI.open ha h0 (fun _ => hC.s0)
        obtain ⟨h1, h2⟩ := iter_ind (P := fun s => a ∈ s.seen) hbd (hstep a) k (openN s a) hI (fun e => by cases e) List.mem_cons_self
        rw [hk] at h1 h2
        exact ⟨h1 hc, h2⟩
    rcases List.mem_cons.1 hr with rfl | hr
    · exact (Outer.ind (P := fun s => r ∈ s.seen) hbd (fun s x _ _ _ h => List.mem_cons_of_mem _ h) (hstep r) l m s' (fun x hx => hl x (List.mem_cons_of_mem _ hx)) hm.1 hm.2 hO).2
    · exact Outer.covers hbd l m s' (fun x hx => hl x (List.mem_cons_of_mem _ hx)) hm.1 hO r hr

/-- The law's 'size' and 'count'. -/
def szOf (n : Nat) (set : List Nat) (F : Nat → Nat → Bool) (i : Nat) : Nat := ((List.range n).filter (fun j => decide (j ∈ set) && (decide (i = j) || (F i j && F j i)))).length
def cntOf (fr : List (List Nat)) (t : Nat) : Nat := (fr.filter (fun c => decide (t ∈ c))).length

theorem cnt_le {fr : List (List Nat)} (h : fr.Pairwise (fun c d => ∀ t, t ∈ c → t ∉ d)) (t : Nat) : cntOf fr t ≤ 1 := by
  induction fr with
  | nil => simp [cntOf]
  | cons c fr ih =>
    rw [List.pairwise_cons] at h
    have ih := ih h.2
    unfold cntOf at ih ⊢
    by_cases hc : t ∈ c
    · have : fr.filter (fun c => decide (t ∈ c)) = [] := List.filter_eq_nil_iff.2 (fun d hd => by simpa using h.1 d hd t hc)
      rw [List.filter_cons]
      simp [hc, this]
    · rw [List.filter_cons]
      simp [hc]
      exact ih
theorem cnt_pos {fr : List (List Nat)} {t : Nat} {c : List Nat} (hc : c ∈ fr) (ht : t ∈ c) : 0 < cntOf fr t := List.length_pos_of_mem (List.mem_filter.2 ⟨hc, by simpa using ht⟩)
theorem cnt_zero {fr : List (List Nat)} {t : Nat} (h : ∀ c, c ∈ fr → t ∉ c) : cntOf fr t = 0 := by
  unfold cntOf
  rw [List.filter_eq_nil_iff.2 (fun c hc => by simpa using h c hc)]
  rfl
theorem cnt_rev (fr : List (List Nat)) (t : Nat) : cntOf fr.reverse t = cntOf fr t := by simp [cntOf, List.filter_reverse]

/-- What the law checks, of the components found. -/
theorem law_plain {n K : Nat} {set ks : List Nat} {rv wv rds wrs : Nat → List Nat} {s : TS} (hsn : ∀ t, t ∈ set → t < n) (hsp : ∀ t, t ∈ set → Spec ks (rv t) (rds t) ∧ Spec ks (wv t) (wrs t)) (hbd : ∀ v, v < n + K → ∀ u, u ∈ succF n set rds wrs v → u < n + K) (hO : Outer n (succF n set rds wrs) set init s) :
    (∀ c, c ∈ s.found → 2 ≤ c.length ∧ c.Pairwise (· < ·) ∧ (∀ t, t ∈ c → t < n ∧ t ∈ set ∧ szOf n set (fw (adj set rv wv) n) t = c.length) ∧ ∀ t u, t ∈ c → u ∈ c → u = t ∨ (fw (adj set rv wv) n u t = true ∧ fw (adj set rv wv) n t u = true)) ∧
    (∀ t, t < n → cntOf s.found t = if t ∈ set ∧ 2 ≤ szOf n set (fw (adj set rv wv) n) t then 1 else 0) := by
  have hl : ∀ r, r ∈ set → r < n + K := fun r hr => by have := hsn r hr; omega
  obtain ⟨hC, hS⟩ := found_scc hbd hl hO
  have hcov := Outer.covers hbd set init s hl Clean.init hO
  have hin : ∀ c, c ∈ s.found → ∀ t, t ∈ c → t < n ∧ t ∈ set := fun c hc t ht => by
    obtain ⟨_, _, q⟩ := hS.fs c hc t ht
    have htn := ((q t).1 ht).1
    refine ⟨htn, ?_⟩
    obtain ⟨hp, h2⟩ := hS.fo c hc
    obtain ⟨u, hu, hne⟩ : ∃ u, u ∈ c ∧ u ≠ t := by
      match c, h2, hp with
      | a :: b :: r, _, hp =>
        rw [List.pairwise_cons] at hp
        have hab := hp.1 b List.mem_cons_self
        by_cases e : a = t
        · exact ⟨b, by simp, by omega⟩
        · exact ⟨a, by simp, e⟩
    exact rc_in ((q u).1 hu).2.2 hne htn
  have hsz : ∀ c, c ∈ s.found → ∀ t, t ∈ c → szOf n set (fw (adj set rv wv) n) t = c.length := fun c hc t ht => by
    obtain ⟨_, _, q⟩ := hS.fs c hc t ht
    obtain ⟨htn, hts⟩ := hin c hc t ht
    have hnd : c.Nodup := (hS.fo c hc).1.imp (fun {a b} hab => by omega)
    refine same_length (List.nodup_range.filter _) hnd (fun x => ?_)
    rw [List.mem_filter, q x]
    simp only [List.mem_range, Bool.and_eq_true, Bool.or_eq_true, decide_eq_true_eq]
    constructor
    · rintro ⟨hx, hxs, hm⟩
      exact ⟨hx, (mutual_iff hsn hsp hts hxs).1 hm⟩
    · rintro ⟨hx, hr⟩
      have hxs : x ∈ set := by
        by_cases e : t = x
        · rw [← e]; exact hts
        · exact rc_in hr.1 e hx
      exact ⟨hx, hxs, (mutual_iff hsn hsp hts hxs).2 hr⟩
  refine ⟨fun c hc => ⟨(hS.fo c hc).2, (hS.fo c hc).1, fun t ht => ⟨(hin c hc t ht).1, (hin c hc t ht).2, hsz c hc t ht⟩, fun t u ht hu => ?_⟩, fun t ht => ?_⟩
  · obtain ⟨_, _, q⟩ := hS.fs c hc t ht
    obtain ⟨_, r1, r2⟩ := (q u).1 hu
    exact (mutual_iff hsn hsp (hin c hc u hu).2 (hin c hc t ht).2).2 ⟨r2, r1⟩
  · have h1 := cnt_le hS.fd t
    split
    · rename_i h
      obtain ⟨hts, h2⟩ := h
      -- another one in its component
      obtain ⟨u, hus, hun, hne, hm⟩ : ∃ u, u ∈ set ∧ u < n ∧ u ≠ t ∧ (fw (adj set rv wv) n t u = true ∧ fw (adj set rv wv) n u t = true) := by
        refine Classical.byContradiction fun hno => ?_
        have hsub : szOf n set (fw (adj set rv wv) n) t ≤ [t].length := by
          refine nodup_sub _ _ (List.nodup_range.filter _) (fun x hx => ?_)
          rw [List.mem_filter] at hx
          simp only [List.mem_range, Bool.and_eq_true, Bool.or_eq_true, decide_eq_true_eq] at hx
          obtain ⟨hx1, hx2, hx3⟩ := hx
          rcases hx3 with rfl | hx3
          · exact List.mem_singleton.2 rfl
          · by_cases e : x = t
            · exact List.mem_singleton.2 e
            · exact absurd ⟨x, hx2, hx1, e, hx3⟩ hno
        simp at hsub
        omega
      have hr := (mutual_iff hsn hsp hts hus).1 (.inr hm)
      obtain ⟨c, hc, htc⟩ := hS.fa t (hcov t hts) (by rw [hC.s0]; simp) ht u hun hne hr.1 hr.2
      have := cnt_pos hc htc
      omega
    · rename_i h
      refine cnt_zero (fun c hc htc => h ⟨(hin c hc t htc).2, ?_⟩)
      rw [hsz c hc t htc]
      exact (hS.fo c hc).2
end Go.Proofs.Ybulkajny
