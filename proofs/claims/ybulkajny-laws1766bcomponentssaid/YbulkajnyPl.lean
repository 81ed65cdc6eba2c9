import Derived.Test.YbulkajnyNj
namespace Go.Proofs.Ybulkajny

/-- What newPrecedence has made of the transactions in done; T: those in hand; M: keys met beside. -/
structure Pl (rv wv : Nat → List Nat) (done : List Nat) (T M : Nat → Prop) (s : NS) : Prop where
  wll : s.wl.length = s.ks.length
  rll : s.rl.length = s.ks.length
  nd : s.ks.Nodup
  spR : ∀ i, i ∈ done → Spec s.ks (rv i) (s.rds i)
  spW : ∀ i, i ∈ done → Spec s.ks (wv i) (s.wrs i)
  nil : ∀ i, i ∉ done → ¬ T i → s.rds i = [] ∧ s.wrs i = []
  met : ∀ k, k < s.ks.length → (∃ i, i ∈ done ∧ (k ∈ s.rds i ∨ k ∈ s.wrs i)) ∨ M k
  wv' : ∀ v, v ∈ s.wl → v = 0 ∨ ∃ i, (i ∈ done ∨ T i) ∧ v = i + 1
  rv' : ∀ v, v ∈ s.rl → v = 0 ∨ ∃ i, (i ∈ done ∨ T i) ∧ v = i + 1
  len : ∀ i, i ∈ done → (s.rds i).length ≤ 512 ∧ (s.wrs i).length ≤ 512

/-- The call of id has answered: nothing new, or one key more. -/
def Told (s : NS) (y : Nat) (ks wl rl : List Nat) : Prop := (y ∈ s.ks ∧ ks = s.ks ∧ wl = s.wl ∧ rl = s.rl) ∨ (y ∉ s.ks ∧ ks = s.ks ++ [y] ∧ wl = s.wl ++ [0] ∧ rl = s.rl ++ [0])

section
variable {rv wv : Nat → List Nat} {done : List Nat} {T M : Nat → Prop} {s : NS} {y : Nat} {ks wl rl : List Nat}

theorem snoc_get {l : List Nat} {k v : Nat} (h : (l ++ [0])[k]? = some v) : l[k]? = some v ∨ (k = l.length ∧ v = 0) := by
  by_cases hk : k < l.length
  · rw [List.getElem?_append_left hk] at h; exact .inl h
  · rw [List.getElem?_append_right (by omega)] at h
    have h0 : k - l.length = 0 := by
      have := (List.getElem?_eq_some_iff.1 h).1
      simp at this
      omega
    rw [h0] at h
    simp at h
    exact .inr ⟨by omega, h.symm⟩
theorem Told.mem (h : Told s y ks wl rl) : y ∈ ks := by
  rcases h with ⟨h, rfl, _⟩ | ⟨_, rfl, _⟩
  · exact h
  · simp
theorem Told.spec {l rs : List Nat} (h : Told s y ks wl rl) (hs : Spec s.ks l rs) : Spec ks l rs := by
  rcases h with ⟨_, rfl, _⟩ | ⟨h, rfl, _⟩
  · exact hs
  · exact hs.grow h
theorem idx_get (h : y ∈ ks) : ks[ks.idxOf y]? = some y := by
  rw [List.getElem?_eq_some_iff]
  exact ⟨List.idxOf_lt_length_of_mem h, List.getElem_idxOf _⟩
theorem Told.pl (h : Told s y ks wl rl) (hp : Pl rv wv done T M s) : Pl rv wv done T (fun k => M k ∨ k = ks.idxOf y) { s with ks := ks, wl := wl, rl := rl } := by
  have hsp := fun {l rs : List Nat} (hs : Spec s.ks l rs) => h.spec hs
  have h0 := h
  rcases h with ⟨hy, rfl, rfl, rfl⟩ | ⟨hy, rfl, rfl, rfl⟩
  · exact ⟨hp.wll, hp.rll, hp.nd, hp.spR, hp.spW, hp.nil, fun k hk => (hp.met k hk).imp_right .inl, hp.wv', hp.rv', hp.len⟩
  · have hnd : (s.ks ++ [y]).Nodup := by
      rw [List.nodup_append]
      exact ⟨hp.nd, by simp, fun a ha b hb => by
        have : b = y := by simpa using hb
        subst this
        exact fun e => hy (e ▸ ha)⟩
    refine ⟨by simp [hp.wll], by simp [hp.rll], hnd, fun i hi => hsp (hp.spR i hi), fun i hi => hsp (hp.spW i hi), hp.nil, fun k hk => ?_, fun v hv => ?_, fun v hv => ?_, hp.len⟩
    · by_cases hk' : k < s.ks.length
      · exact (hp.met k hk').imp_right .inl
      · right; right
        have : k = s.ks.length := by simp at hk; omega
        rw [this]
        have hi : (s.ks ++ [y])[s.ks.length]? = some y := by simp
        exact (idxOf_of hnd hi).symm
    · rcases List.mem_append.1 hv with hv | hv
      · exact hp.wv' v hv
      · exact .inl (by simpa using hv)
    · rcases List.mem_append.1 hv with hv | hv
      · exact hp.rv' v hv
      · exact .inl (by simpa using hv)
theorem Told.wAt (h : Told s y ks wl rl) {k v : Nat} (hk : wl[k]? = some v) : s.wl[k]? = some v ∨ (k = s.wl.length ∧ v = 0) := by
  rcases h with ⟨_, _, rfl, _⟩ | ⟨_, _, rfl, _⟩
  · exact .inl hk
  · exact snoc_get hk
theorem Told.rAt (h : Told s y ks wl rl) {k v : Nat} (hk : rl[k]? = some v) : s.rl[k]? = some v ∨ (k = s.rl.length ∧ v = 0) := by
  rcases h with ⟨_, _, _, rfl⟩ | ⟨_, _, _, rfl⟩
  · exact .inl hk
  · exact snoc_get hk

theorem Pl.weaken {M' : Nat → Prop} (h : Pl rv wv done T M s) (hm : ∀ k, M k → M' k) : Pl rv wv done T M' s :=
  ⟨h.wll, h.rll, h.nd, h.spR, h.spW, h.nil, fun k hk => (h.met k hk).imp_right (hm k), h.wv', h.rv', h.len⟩
theorem set_get {l : List Nat} {k j v u : Nat} (h : (l.set k u)[j]? = some v) : (j = k ∧ v = u) ∨ (j ≠ k ∧ l[j]? = some v) := by
  rw [List.getElem?_set] at h
  by_cases e : k = j
  · subst e
    rw [if_pos rfl] at h
    split at h
    · simp at h; exact .inl ⟨rfl, h.symm⟩
    · cases h
  · rw [if_neg e] at h
    exact .inr ⟨Ne.symm e, h⟩
theorem set_mem {l : List Nat} {k v u : Nat} (h : v ∈ l.set k u) : v ∈ l ∨ v = u := List.mem_or_eq_of_mem_set h

/-- Inside the loop over the writes. -/
structure L2 (rv wv : Nat → List Nat) (done : List Nat) (t j : Nat) (X : Nat → Prop) (s : NS) : Prop where
  pl : Pl rv wv done (fun i => i = t) (fun k => k ∈ s.lw ∨ X k) s
  sp : Spec s.ks ((wv t).take j) s.lw
  w1 : ∀ (k v : Nat), s.wl[k]? = some v → (v = t + 1 ↔ k ∈ s.lw)
  r1 : ∀ (k v : Nat), s.rl[k]? = some v → v ≠ t + 1
  ll : s.lw.length ≤ j
  r0 : s.rds t = []
  w0 : s.wrs t = []
  p0 : s.lp = []

theorem L2.start {t : Nat} (h : Pl rv wv done (fun _ => False) (fun _ => False) s) (ht : t ∉ done) : L2 rv wv done t 0 (fun _ => False) { s with lw := [], lp := [] } := by
  have hne : ∀ v, (v = 0 ∨ ∃ i, (i ∈ done ∨ False) ∧ v = i + 1) → v ≠ t + 1 := by
    rintro v (rfl | ⟨i, hi | hi, rfl⟩)
    · omega
    · intro e
      exact ht (by have : i = t := by omega
                   exact this ▸ hi)
    · exact hi.elim
  have hn := h.nil t ht (fun hf => hf)
  refine ⟨⟨h.wll, h.rll, h.nd, h.spR, h.spW, fun i hi _ => h.nil i hi (fun hf => hf), fun k hk => (h.met k hk).imp_right (fun hf => hf.elim), fun v hv => (h.wv' v hv).imp_right ?_, fun v hv => (h.rv' v hv).imp_right ?_, h.len⟩, by simpa using Spec.nil s.ks, fun k v hk => ?_, fun k v hk => hne v (h.rv' v (List.mem_of_getElem? hk)), Nat.le_refl _, hn.1, hn.2, rfl⟩
  · rintro ⟨i, hi | hi, e⟩
    · exact ⟨i, .inl hi, e⟩
    · exact hi.elim
  · rintro ⟨i, hi | hi, e⟩
    · exact ⟨i, .inl hi, e⟩
    · exact hi.elim
  · have := hne v (h.wv' v (List.mem_of_getElem? hk))
    exact ⟨fun e => (this e).elim, fun hf => by cases hf⟩

theorem L2.step {t j z : Nat} (h : L2 rv wv done t j (fun _ => False) s) (hz : (wv t)[j]? = some z) (hd : Told s (z % 4) ks wl rl) :
    ∃ v, wl[ks.idxOf (z % 4)]? = some v ∧ (v = t + 1 → L2 rv wv done t (j + 1) (fun _ => False) { s with ks := ks, wl := wl, rl := rl }) ∧
      (v ≠ t + 1 → L2 rv wv done t (j + 1) (fun _ => False) { s with ks := ks, wl := wl.set (ks.idxOf (z % 4)) (t + 1), rl := rl, lw := s.lw ++ [ks.idxOf (z % 4)] }) := by
  have hp := hd.pl h.pl
  have hy := idx_get hd.mem
  have hsp := hd.spec h.sp
  have htk : (wv t).take (j + 1) = (wv t).take j ++ [z] := by rw [List.take_add_one, hz]; rfl
  have hlt : ∀ k, k ∈ s.lw → k < s.wl.length := fun k hk => by rw [h.pl.wll]; exact h.sp.lt hk
  have w1' : ∀ k v, wl[k]? = some v → (v = t + 1 ↔ k ∈ s.lw) := fun k v hk => by
    rcases hd.wAt hk with hk | ⟨rfl, rfl⟩
    · exact h.w1 k v hk
    · exact ⟨fun e => by omega, fun e => absurd (hlt _ e) (Nat.lt_irrefl _)⟩
  have r1' : ∀ k v, rl[k]? = some v → v ≠ t + 1 := fun k v hk => by
    rcases hd.rAt hk with hk | ⟨rfl, rfl⟩
    · exact h.r1 k v hk
    · omega
  generalize hq : ks.idxOf (z % 4) = q at *
  have hql : q < wl.length := by
    have : q < ks.length := (List.getElem?_eq_some_iff.1 hy).1
    have := hp.wll
    simp only at this
    omega
  refine ⟨wl[q], List.getElem?_eq_getElem hql, fun hv => ?_, fun hv => ?_⟩
  · have hm : q ∈ s.lw := (w1' q _ (List.getElem?_eq_getElem hql)).1 hv
    refine ⟨hp.weaken ?_, ?_, w1', r1', Nat.le_succ_of_le h.ll, h.r0, h.w0, h.p0⟩
    · rintro k ((hk | hk) | rfl)
      · exact .inl hk
      · exact hk.elim
      · exact .inl hm
    · rw [htk]
      exact hsp.snoc hp.nd hy _ (fun j => ⟨.inl, fun hj => hj.elim (fun hj => hj) (fun hj => hj ▸ hm)⟩)
  · have hm : q ∉ s.lw := fun hm => hv ((w1' q _ (List.getElem?_eq_getElem hql)).2 hm)
    refine ⟨⟨by simpa using hp.wll, hp.rll, hp.nd, hp.spR, hp.spW, hp.nil, fun k hk => ?_, fun v hv => ?_, hp.rv', hp.len⟩, ?_, fun k v hk => ?_, r1', ?_, h.r0, h.w0, h.p0⟩
    · rcases hp.met k hk with hk | ((hk | hk) | rfl)
      · exact .inl hk
      · exact .inr (.inl (List.mem_append_left _ hk))
      · exact hk.elim
      · exact .inr (.inl (by simp))
    · rcases set_mem hv with hv | rfl
      · exact hp.wv' v hv
      · exact .inr ⟨t, .inr rfl, rfl⟩
    · rw [htk]
      exact hsp.snoc hp.nd hy _ (fun j => by simp)
    · rcases set_get hk with ⟨rfl, rfl⟩ | ⟨hne, hk⟩
      · simp
      · rw [w1' k v hk]
        simp [hne]
    · have := h.ll
      simp
      exact this

/-- Inside the loop over the reads. -/
structure L3 (rv wv : Nat → List Nat) (done : List Nat) (t j : Nat) (X : Nat → Prop) (s : NS) : Prop where
  pl : Pl rv wv done (fun i => i = t) (fun k => (k ∈ s.lw ∨ k ∈ s.rds t ++ s.lp) ∨ X k) s
  spw : Spec s.ks (wv t) s.lw
  sp : Spec s.ks ((rv t).take j) (s.rds t ++ s.lp)
  w1 : ∀ (k v : Nat), s.wl[k]? = some v → (v = t + 1 ↔ k ∈ s.lw)
  r1 : ∀ (k v : Nat), s.rl[k]? = some v → (v = t + 1 ↔ k ∈ s.rds t ++ s.lp)
  bw : ∀ k, k ∈ s.rds t → k ∈ s.lw
  pw : ∀ k, k ∈ s.lp → k ∉ s.lw
  ll : s.lw.length ≤ (wv t).length
  l2 : (s.rds t).length + s.lp.length ≤ j
  w0 : s.wrs t = []

theorem L2.stop {t : Nat} (h : L2 rv wv done t (wv t).length (fun _ => False) s) : L3 rv wv done t 0 (fun _ => False) s := by
  have hs := h.sp
  rw [List.take_length] at hs
  refine ⟨h.pl.weaken ?_, hs, ?_, h.w1, fun k v hk => ?_, ?_, ?_, h.ll, ?_, h.w0⟩
  · rintro k (hk | hk)
    · exact .inl (.inl hk)
    · exact hk.elim
  · rw [h.r0, h.p0]; simpa using Spec.nil s.ks
  · rw [h.r0, h.p0]
    exact ⟨fun e => (h.r1 k v hk e).elim, fun hf => by simp at hf⟩
  · rw [h.r0]; intro k hk; cases hk
  · rw [h.p0]; intro k hk; cases hk
  · rw [h.r0, h.p0]; exact Nat.le_refl _

theorem L3.step {t j z : Nat} (h : L3 rv wv done t j (fun _ => False) s) (htd : t ∉ done) (hz : (rv t)[j]? = some z) (hd : Told s (z % 4) ks wl rl) :
    ∃ v u, rl[ks.idxOf (z % 4)]? = some v ∧ wl[ks.idxOf (z % 4)]? = some u ∧ (v = t + 1 → L3 rv wv done t (j + 1) (fun _ => False) { s with ks := ks, wl := wl, rl := rl }) ∧
      (v ≠ t + 1 → u = t + 1 → L3 rv wv done t (j + 1) (fun _ => False) { s with ks := ks, wl := wl, rl := rl.set (ks.idxOf (z % 4)) (t + 1), rds := ud s.rds t (s.rds t ++ [ks.idxOf (z % 4)]) }) ∧
      (v ≠ t + 1 → u ≠ t + 1 → L3 rv wv done t (j + 1) (fun _ => False) { s with ks := ks, wl := wl, rl := rl.set (ks.idxOf (z % 4)) (t + 1), lp := s.lp ++ [ks.idxOf (z % 4)] }) := by
  have hp := hd.pl h.pl
  have hy := idx_get hd.mem
  have hsp := hd.spec h.sp
  have hspw := hd.spec h.spw
  have htk : (rv t).take (j + 1) = (rv t).take j ++ [z] := by rw [List.take_add_one, hz]; rfl
  have w1' : ∀ k v, wl[k]? = some v → (v = t + 1 ↔ k ∈ s.lw) := fun k v hk => by
    rcases hd.wAt hk with hk | ⟨rfl, rfl⟩
    · exact h.w1 k v hk
    · exact ⟨fun e => by omega, fun e => absurd (h.spw.lt e) (by rw [← h.pl.wll]; exact Nat.lt_irrefl _)⟩
  have r1' : ∀ k v, rl[k]? = some v → (v = t + 1 ↔ k ∈ s.rds t ++ s.lp) := fun k v hk => by
    rcases hd.rAt hk with hk | ⟨rfl, rfl⟩
    · exact h.r1 k v hk
    · exact ⟨fun e => by omega, fun e => absurd (h.sp.lt e) (by rw [← h.pl.rll]; exact Nat.lt_irrefl _)⟩
  generalize hq : ks.idxOf (z % 4) = q at *
  have hqk : q < ks.length := (List.getElem?_eq_some_iff.1 hy).1
  have hql : q < wl.length := by
    have := hp.wll
    simp only at this
    omega
  have hqr : q < rl.length := by
    have := hp.rll
    simp only at this
    omega
  have hud : ∀ i, i ∈ done → ud s.rds t (s.rds t ++ [q]) i = s.rds i := fun i hi => ud_ne (fun e => htd (e ▸ hi))
  refine ⟨rl[q], wl[q], List.getElem?_eq_getElem hqr, List.getElem?_eq_getElem hql, fun hv => ?_, fun hv hu => ?_, fun hv hu => ?_⟩
  · have hm : q ∈ s.rds t ++ s.lp := (r1' q _ (List.getElem?_eq_getElem hqr)).1 hv
    refine ⟨hp.weaken ?_, hspw, ?_, w1', r1', h.bw, h.pw, h.ll, Nat.le_succ_of_le h.l2, h.w0⟩
    · rintro k ((hk | hk) | rfl)
      · exact .inl hk
      · exact hk.elim
      · exact .inl (.inr hm)
    · rw [htk]
      exact hsp.snoc hp.nd hy _ (fun j => ⟨.inl, fun hj => hj.elim (fun hj => hj) (fun hj => hj ▸ hm)⟩)
  · have hm : q ∉ s.rds t ++ s.lp := fun hm => hv ((r1' q _ (List.getElem?_eq_getElem hqr)).2 hm)
    have hw : q ∈ s.lw := (w1' q _ (List.getElem?_eq_getElem hql)).1 hu
    refine ⟨⟨hp.wll, by simpa using hp.rll, hp.nd, fun i hi => by dsimp only; rw [hud i hi]; exact hp.spR i hi, hp.spW, fun i hi hT => by dsimp only; rw [ud_ne hT]; exact hp.nil i hi hT, fun k hk => ?_, hp.wv', fun v hv => ?_, fun i hi => by dsimp only; rw [hud i hi]; exact hp.len i hi⟩, hspw, ?_, w1', fun k v hk => ?_, ?_, h.pw, h.ll, ?_, h.w0⟩
    · rcases hp.met k hk with ⟨i, hi, hk⟩ | ((hk | hk) | rfl)
      · exact .inl ⟨i, hi, by dsimp only; rw [hud i hi]; exact hk⟩
      · refine .inr (.inl ?_)
        dsimp only
        rw [ud_eq]
        rcases hk with hk | hk
        · exact .inl hk
        · right
          rcases List.mem_append.1 hk with hk | hk
          · simp [hk]
          · simp [hk]
      · exact hk.elim
      · exact .inr (.inl (.inl hw))
    · rcases set_mem hv with hv | rfl
      · exact hp.rv' v hv
      · exact .inr ⟨t, .inr rfl, rfl⟩
    · dsimp only
      rw [htk, ud_eq]
      refine hsp.snoc hp.nd hy _ (fun j => ?_)
      simp only [List.mem_append, List.mem_singleton]
      constructor
      · rintro ((h | h) | h)
        · exact .inl (.inl h)
        · exact .inr h
        · exact .inl (.inr h)
      · rintro ((h | h) | h)
        · exact .inl (.inl h)
        · exact .inr h
        · exact .inl (.inr h)
    · dsimp only
      rw [ud_eq]
      rcases set_get hk with ⟨rfl, rfl⟩ | ⟨hne, hk⟩
      · simp
      · rw [r1' k v hk]
        simp [hne]
    · dsimp only
      rw [ud_eq]
      intro k hk
      rcases List.mem_append.1 hk with hk | hk
      · exact h.bw k hk
      · have : k = q := by simpa using hk
        exact this ▸ hw
    · have := h.l2
      simp only [ud_eq, List.length_append, List.length_singleton]
      omega
  · have hm : q ∉ s.rds t ++ s.lp := fun hm => hv ((r1' q _ (List.getElem?_eq_getElem hqr)).2 hm)
    have hw : q ∉ s.lw := fun hm => hu ((w1' q _ (List.getElem?_eq_getElem hql)).2 hm)
    refine ⟨⟨hp.wll, by simpa using hp.rll, hp.nd, hp.spR, hp.spW, hp.nil, fun k hk => ?_, hp.wv', fun v hv => ?_, hp.len⟩, hspw, ?_, w1', fun k v hk => ?_, h.bw, ?_, h.ll, ?_, h.w0⟩
    · rcases hp.met k hk with hk | ((hk | hk) | rfl)
      · exact .inl hk
      · refine .inr (.inl ?_)
        rcases hk with hk | hk
        · exact .inl hk
        · right
          rcases List.mem_append.1 hk with hk | hk
          · simp [hk]
          · simp [hk]
      · exact hk.elim
      · exact .inr (.inl (.inr (by simp)))
    · rcases set_mem hv with hv | rfl
      · exact hp.rv' v hv
      · exact .inr ⟨t, .inr rfl, rfl⟩
    · rw [htk]
      refine hsp.snoc hp.nd hy _ (fun j => ?_)
      simp only [List.mem_append, List.mem_singleton]
      exact or_assoc.symm
    · rcases set_get hk with ⟨rfl, rfl⟩ | ⟨hne, hk⟩
      · simp
      · rw [r1' k v hk]
        simp [hne]
    · intro k hk
      rcases List.mem_append.1 hk with hk | hk
      · exact h.pw k hk
      · have : k = q := by simpa using hk
        exact this ▸ hw
    · have := h.l2
      simp only [List.length_append, List.length_singleton]
      omega

/-- Inside the loop over the local writes. -/
def n4 (t : Nat) (s : NS) (j : Nat) : NS := { s with wrs := ud s.wrs t (s.rds t ++ (s.lw.take j).filter (fun k => !decide (k ∈ s.rds t ++ s.lp))) }
theorem n4_skip {t j k : Nat} (hk : s.lw[j]? = some k) (h : k ∈ s.rds t ++ s.lp) : n4 t s (j + 1) = n4 t s j := by
  unfold n4
  rw [List.take_add_one, hk]
  simp only [Option.toList_some, List.filter_append, List.filter_cons, h, decide_true, Bool.not_true, List.filter_nil, Bool.false_eq_true, if_false, List.append_nil]
theorem n4_push {t j k : Nat} (hk : s.lw[j]? = some k) (h : k ∉ s.rds t ++ s.lp) : { n4 t s j with wrs := ud (n4 t s j).wrs t ((n4 t s j).wrs t ++ [k]) } = n4 t s (j + 1) := by
  unfold n4
  rw [List.take_add_one, hk]
  simp only [Option.toList_some, List.filter_append, List.filter_cons, h, decide_false, Bool.not_false, List.filter_nil, if_true, ud_eq, NS.mk.injEq, true_and, and_true]
  funext i
  by_cases e : i = t
  · subst e; rw [ud_eq, ud_eq, List.append_assoc]
  · rw [ud_ne e, ud_ne e, ud_ne e]
def n5 (t : Nat) (s : NS) : NS := { n4 t s s.lw.length with rds := ud s.rds t (s.rds t ++ s.lp) }

theorem L3.stop {t : Nat} (h : L3 rv wv done t (rv t).length (fun _ => False) s) (htd : t ∉ done) (hr : (rv t).length ≤ 256) (hw : (wv t).length ≤ 256) : Pl rv wv (done ++ [t]) (fun _ => False) (fun _ => False) (n5 t s) := by
  have hud : ∀ i, i ∈ done → (n5 t s).rds i = s.rds i ∧ (n5 t s).wrs i = s.wrs i := fun i hi => ⟨ud_ne (fun e => htd (e ▸ hi)), ud_ne (fun e => htd (e ▸ hi))⟩
  have h1 : (n5 t s).rds t = s.rds t ++ s.lp := ud_eq
  have h2 : (n5 t s).wrs t = s.rds t ++ s.lw.filter (fun k => !decide (k ∈ s.rds t ++ s.lp)) := by
    show ud _ _ _ _ = _
    rw [ud_eq, List.take_length]
  have hm2 : ∀ k, k ∈ (n5 t s).wrs t ↔ k ∈ s.lw := fun k => by
    rw [h2]
    simp only [List.mem_append, List.mem_filter, Bool.not_eq_true', decide_eq_false_iff_not]
    constructor
    · rintro (hk | ⟨hk, _⟩)
      · exact h.bw k hk
      · exact hk
    · intro hk
      by_cases hb : k ∈ s.rds t
      · exact .inl hb
      · exact .inr ⟨hk, fun hf => hf.elim hb (fun hp => h.pw k hp hk)⟩
  have hsp := h.sp
  rw [List.take_length] at hsp
  have hpl := h.pl
  refine ⟨hpl.wll, hpl.rll, hpl.nd, fun i hi => ?_, fun i hi => ?_, fun i hi _ => ?_, fun k hk => ?_, fun v hv => ?_, fun v hv => ?_, fun i hi => ?_⟩
  · rcases List.mem_append.1 hi with hi | hi
    · rw [(hud i hi).1]; exact hpl.spR i hi
    · obtain rfl : i = t := by simpa using hi
      rw [h1]; exact hsp
  · rcases List.mem_append.1 hi with hi | hi
    · rw [(hud i hi).2]; exact hpl.spW i hi
    · obtain rfl : i = t := by simpa using hi
      exact ⟨h.spw.met, fun k => by rw [hm2 k]; exact h.spw.iff k⟩
  · have hit : i ≠ t := fun e => hi (by simp [e])
    have hid : i ∉ done := fun e => hi (List.mem_append_left _ e)
    have := hpl.nil i hid hit
    exact ⟨(ud_ne hit).trans this.1, (ud_ne hit).trans this.2⟩
  · left
    rcases hpl.met k hk with ⟨i, hi, hk⟩ | ((hk | hk) | hk)
    · exact ⟨i, List.mem_append_left _ hi, by rw [(hud i hi).1, (hud i hi).2]; exact hk⟩
    · exact ⟨t, by simp, .inr ((hm2 k).2 hk)⟩
    · exact ⟨t, by simp, .inl (by rw [h1]; exact hk)⟩
    · exact hk.elim
  · refine (hpl.wv' v hv).imp_right ?_
    rintro ⟨i, hi | rfl, e⟩
    · exact ⟨i, .inl (List.mem_append_left _ hi), e⟩
    · exact ⟨i, .inl (by simp), e⟩
  · refine (hpl.rv' v hv).imp_right ?_
    rintro ⟨i, hi | rfl, e⟩
    · exact ⟨i, .inl (List.mem_append_left _ hi), e⟩
    · exact ⟨i, .inl (by simp), e⟩
  · rcases List.mem_append.1 hi with hi | hi
    · rw [(hud i hi).1, (hud i hi).2]; exact hpl.len i hi
    · obtain rfl : i = t := by simpa using hi
      have l2 := h.l2
      have ll := h.ll
      rw [h1, h2]
      simp only [List.length_append]
      have := List.length_filter_le (fun k => !decide (k ∈ s.rds i ++ s.lp)) s.lw
      omega
end
end Go.Proofs.Ybulkajny
