import Derived.Test.YbulkajnyConf
import Derived.Deep.LoopGhost
import Derived.Deep.DeepCutAuto
namespace Go.Proofs.Ybulkajny
open Go.RowKit Go.Sort

section
variable {w0 w w' : World} {R0 : Nat → Row} {E : Option (Nat × Obj)} {n K : Nat} {b : Nat → Nat} {c : CS}

/-- Before the append to row k of the readers, and behind it. -/
theorem Cj.readyR (hC : Cj w0 w R0 E n K b c) {k : Nat} (hk : k < K) (hK : K ≤ 200) (t : Nat) :
    ∃ R p q, Fam w0 w R E ∧ R (102 + 4 * k) = ⟨p, q, 21, 1, (c.rl k).length, (c.rl k).map i32⟩ ∧ (R 3).blk = some (b 3) ∧ w.cell? ⟨b 3, k, none⟩ = some (.slice (p.map fun b => ⟨b, 0, none⟩) (c.rl k).length q) ∧
      (∀ i, ¬ Cset i → R i = R0 i) ∧
      (∀ g cap w2, Fam w0 w2 (put R (102 + 4 * k) ⟨some g, cap, 21, 1, (c.rl k).length + 1, (c.rl k).map i32 ++ [i32 t]⟩) E → w2.cell? ⟨b 3, k, none⟩ = some (.slice (p.map fun b => ⟨b, 0, none⟩) (c.rl k).length q) ∧ w2.frozen? ⟨b 3, k, none⟩ = false ∧
        (∀ i d j v, ¬ Cset i → (R0 i).blk = some d → (R0 i).xs[j]? = some v → w2.cell? ⟨d, j, none⟩ = some v) ∧
        Cj w0 (w2.setCell ⟨b 3, k, none⟩ (.slice (some ⟨g, 0, none⟩) ((c.rl k).length + 1) cap)) R0 E n K b (pushR t k c)) := by
  obtain ⟨R, h, hc, hR⟩ := hC
  obtain ⟨p, q, hrow⟩ := hc.rs k hk
  have hcell := hc.rcell h hk
  have hv : (R (102 + 4 * k)).val = .slice (p.map fun b => ⟨b, 0, none⟩) (c.rl k).length q := by rw [hrow]; rfl
  rw [hv] at hcell
  refine ⟨R, p, q, h, hrow, by rw [hc.r3], hcell, hR, fun g cap w2 h2 => ⟨?_, ?_, fun i d j v hi hd hj => ?_, ?_⟩⟩
  · refine h2.cell (i := 3) (by rw [put_ne (by omega), hc.r3]) ?_
    rw [put_ne (by omega), hc.r3, ← hv]
    exact tab_get hk
  · exact h2.free (i := 3) (by rw [put_ne (by omega), hc.r3]) k
  · have hne : i ≠ 102 + 4 * k := fun e => hi (by rw [e]; exact cset_rs (by omega))
    exact h2.cell (i := i) (by rw [put_ne hne, hR i hi]; exact hd) (by rw [put_ne hne, hR i hi]; exact hj)
  · exact Cj.boxR hc hR hK hk (l := c.rl k ++ [t]) (by simp) (by simp) h2
theorem Cj.readyW (hC : Cj w0 w R0 E n K b c) {k : Nat} (hk : k < K) (hK : K ≤ 200) (t : Nat) :
    ∃ R p q, Fam w0 w R E ∧ R (103 + 4 * k) = ⟨p, q, 21, 1, (c.wl k).length, (c.wl k).map i32⟩ ∧ (R 4).blk = some (b 4) ∧ w.cell? ⟨b 4, k, none⟩ = some (.slice (p.map fun b => ⟨b, 0, none⟩) (c.wl k).length q) ∧
      (∀ i, ¬ Cset i → R i = R0 i) ∧
      (∀ g cap w2, Fam w0 w2 (put R (103 + 4 * k) ⟨some g, cap, 21, 1, (c.wl k).length + 1, (c.wl k).map i32 ++ [i32 t]⟩) E → w2.cell? ⟨b 4, k, none⟩ = some (.slice (p.map fun b => ⟨b, 0, none⟩) (c.wl k).length q) ∧ w2.frozen? ⟨b 4, k, none⟩ = false ∧
        (∀ i d j v, ¬ Cset i → (R0 i).blk = some d → (R0 i).xs[j]? = some v → w2.cell? ⟨d, j, none⟩ = some v) ∧
        Cj w0 (w2.setCell ⟨b 4, k, none⟩ (.slice (some ⟨g, 0, none⟩) ((c.wl k).length + 1) cap)) R0 E n K b (pushW t k c)) := by
  obtain ⟨R, h, hc, hR⟩ := hC
  obtain ⟨p, q, hrow⟩ := hc.ws k hk
  have hcell := hc.wcell h hk
  have hv : (R (103 + 4 * k)).val = .slice (p.map fun b => ⟨b, 0, none⟩) (c.wl k).length q := by rw [hrow]; rfl
  rw [hv] at hcell
  refine ⟨R, p, q, h, hrow, by rw [hc.r4], hcell, hR, fun g cap w2 h2 => ⟨?_, ?_, fun i d j v hi hd hj => ?_, ?_⟩⟩
  · refine h2.cell (i := 4) (by rw [put_ne (by omega), hc.r4]) ?_
    rw [put_ne (by omega), hc.r4, ← hv]
    exact tab_get hk
  · exact h2.free (i := 4) (by rw [put_ne (by omega), hc.r4]) k
  · have hne : i ≠ 103 + 4 * k := fun e => hi (by rw [e]; exact cset_ws (by omega))
    exact h2.cell (i := i) (by rw [put_ne hne, hR i hi]; exact hd) (by rw [put_ne hne, hR i hi]; exact hj)
  · exact Cj.boxW hc hR hK hk (l := c.wl k ++ [t]) (by simp) (by simp) h2
theorem Cj.setM (hC : Cj w0 w R0 E n K b c) (t : Nat) (x : Value) : Cj w0 (w.setCell ⟨b 7, t, none⟩ x) R0 E n K b c := by
  obtain ⟨R, h, hc, hR⟩ := hC
  obtain ⟨f, hf⟩ := hc.r7
  have hs := h.set (i := 7) (b := b 7) (j := t) (v := x) (by rw [hf])
  refine ⟨_, hs, ⟨?_, ?_, ?_, ⟨fun i => if i = t then x else f i, ?_⟩, fun j hj => ?_, fun j hj => ?_⟩, rest_putC hR (.inr (.inr (.inr (.inl rfl))))⟩
  · rw [put_ne (by omega), hc.r3]
    simp only [Row.mk.injEq, true_and]
    exact tab_congr (fun j _ => by rw [put_ne (by omega)])
  · rw [put_ne (by omega), hc.r4]
    simp only [Row.mk.injEq, true_and]
    exact tab_congr (fun j _ => by rw [put_ne (by omega)])
  · rw [put_ne (by omega)]; exact hc.r5
  · rw [put_eq, hf]
    simp only [Row.mk.injEq, true_and]
    exact tab_set (by simp) (fun i hi => by simp [hi])
  · rw [put_ne (by omega)]; exact hc.rs j hj
  · rw [put_ne (by omega)]; exact hc.ws j hj
theorem Cj.mem (hC : Cj w0 w R0 E n K b c) {t : Nat} (ht : t < n) : (∃ x, w.cell? ⟨b 7, t, none⟩ = some x) ∧ w.frozen? ⟨b 7, t, none⟩ = false := by
  obtain ⟨R, h, hc, hR⟩ := hC
  obtain ⟨f, hf⟩ := hc.r7
  exact ⟨⟨f t, h.cell (i := 7) (by rw [hf]) (by rw [hf]; exact tab_get ht)⟩, h.free (i := 7) (by rw [hf]) t⟩

/-- What confine does: per transaction, then all. -/
def confR (st t : Nat) (c : CS) (k : Nat) : CS := pushR t k (startC st k c)
def confW (st t : Nat) (c : CS) (k : Nat) : CS := pushW t k (startC st k c)
def confT (st : Nat) (rds wrs : Nat → List Nat) (c : CS) (t : Nat) : CS := (wrs t).foldl (confW st t) ((rds t).foldl (confR st t) c)

theorem rl_len_start (st k : Nat) (c : CS) (j : Nat) : ((startC st k c).rl j).length ≤ (c.rl j).length ∧ ((startC st k c).wl j).length ≤ (c.wl j).length := by
  unfold startC
  split
  · exact ⟨Nat.le_refl _, Nat.le_refl _⟩
  · constructor
    · show (ud c.rl k [] j).length ≤ _
      by_cases e : j = k
      · subst e; rw [ud_eq]; exact Nat.zero_le _
      · rw [ud_ne e]; exact Nat.le_refl _
    · show (ud c.wl k [] j).length ≤ _
      by_cases e : j = k
      · subst e; rw [ud_eq]; exact Nat.zero_le _
      · rw [ud_ne e]; exact Nat.le_refl _

def LenB (c : CS) (M : Nat) : Prop := ∀ k, (c.rl k).length ≤ M ∧ (c.wl k).length ≤ M
theorem LenB.confR {st t k M : Nat} (h : LenB c M) : LenB (confR st t c k) (M + 1) := fun j => by
  have h1 := rl_len_start st k c j
  have h2 := h j
  refine ⟨?_, ?_⟩
  · show (ud (startC st k c).rl k ((startC st k c).rl k ++ [t]) j).length ≤ M + 1
    by_cases e : j = k
    · subst e; rw [ud_eq, List.length_append]; simp; omega
    · rw [ud_ne e]; omega
  · show ((startC st k c).wl j).length ≤ M + 1
    omega
theorem LenB.confW {st t k M : Nat} (h : LenB c M) : LenB (confW st t c k) (M + 1) := fun j => by
  have h1 := rl_len_start st k c j
  have h2 := h j
  refine ⟨?_, ?_⟩
  · show ((startC st k c).rl j).length ≤ M + 1
    omega
  · show (ud (startC st k c).wl k ((startC st k c).wl k ++ [t]) j).length ≤ M + 1
    by_cases e : j = k
    · subst e; rw [ud_eq, List.length_append]; simp; omega
    · rw [ud_ne e]; omega
theorem LenB.mono {M M' : Nat} (h : LenB c M) (hm : M ≤ M') : LenB c M' := fun k => ⟨Nat.le_trans (h k).1 hm, Nat.le_trans (h k).2 hm⟩

/-- The rows that confine reads. -/
structure RW (R : Nat → Row) (n K : Nat) (b : Nat → Nat) (rds wrs : Nat → List Nat) : Prop where
  r1 : R 1 = ⟨some (b 1), n, 22, 1, n, tab n (fun i => (R (100 + 4 * i)).val)⟩
  r2 : R 2 = ⟨some (b 2), n, 22, 1, n, tab n (fun i => (R (101 + 4 * i)).val)⟩
  rd : ∀ i, i < n → ∃ p q, R (100 + 4 * i) = ⟨p, q, 21, 1, (rds i).length, (rds i).map i32⟩
  wr : ∀ i, i < n → ∃ p q, R (101 + 4 * i) = ⟨p, q, 21, 1, (wrs i).length, (wrs i).map i32⟩
  rk : ∀ i, i < n → ∀ k, k ∈ rds i → k < K
  wk : ∀ i, i < n → ∀ k, k ∈ wrs i → k < K
  rl : ∀ i, i < n → (rds i).length ≤ 600
  wl : ∀ i, i < n → (wrs i).length ≤ 600

theorem Row.ok.at {p : Option Nat} {q base : Nat} {l : List Nat} (h : Row.ok ⟨p, q, 21, 1, l.length, l.map i32⟩ base w) {j x : Nat} (hj : l[j]? = some x) : ∃ g, p = some g := by
  cases p with
  | some g => exact ⟨g, rfl⟩
  | none =>
    rcases h.2 with ⟨_, hn⟩ | ⟨g, cap, cur, hv, _⟩
    · have : l = [] := List.length_eq_zero_iff.1 hn
      rw [this] at hj; cases hj
    · simp [Row.val] at hv
theorem Cj.ok (hC : Cj w0 w R0 E n K b c) {i : Nat} (hi : ¬ Cset i) : (R0 i).ok w0.heap.size w := by
  obtain ⟨R, h, _, hR⟩ := hC
  rw [← hR i hi]; exact h.ok i
theorem Cj.ne (hC : Cj w0 w R0 E n K b c) {i j : Nat} {x y : Nat} (hi : ¬ Cset i) (hj : ¬ Cset j) (hx : (R0 i).blk = some x) (hy : (R0 j).blk = some y) (hij : i ≠ j) : x ≠ y := by
  obtain ⟨R, h, _, hR⟩ := hC
  exact h.ne (i := i) (j := j) (by rw [hR i hi]; exact hx) (by rw [hR j hj]; exact hy) hij
theorem Cj.ne7 (hC : Cj w0 w R0 E n K b c) {i x : Nat} (hi : ¬ Cset i) (hx : (R0 i).blk = some x) : b 7 ≠ x := by
  obtain ⟨R, h, hc, hR⟩ := hC
  obtain ⟨f, hf⟩ := hc.r7
  exact h.ne (i := 7) (j := i) (by rw [hf]) (by rw [hR i hi]; exact hx) (fun e => hi (e ▸ .inr (.inr (.inr (.inl rfl)))))
end
end Go.Proofs.Ybulkajny
