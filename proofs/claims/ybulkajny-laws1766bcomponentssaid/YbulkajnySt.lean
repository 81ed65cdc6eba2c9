import Derived.Test.YbulkajnyApp
namespace Go.Proofs.Ybulkajny
open Go.RowKit Go.Sort

abbrev i32 (x : Nat) : Value := .int .i32 (x : Int)
/-- A row given by a function. -/
def tab (N : Nat) (f : Nat → Value) : List Value := (List.range N).map f
theorem tab_length (N : Nat) (f : Nat → Value) : (tab N f).length = N := by simp [tab]
theorem tab_get {N : Nat} {f : Nat → Value} {j : Nat} (h : j < N) : (tab N f)[j]? = some (f j) := by simp [tab, h]
theorem tab_congr {N : Nat} {f g : Nat → Value} (h : ∀ j, j < N → f j = g j) : tab N f = tab N g := List.map_congr_left (fun j hj => h j (by simpa using hj))
theorem tab_set {N : Nat} {f g : Nat → Value} {j : Nat} {x : Value} (hj : g j = x) (hn : ∀ i, i ≠ j → g i = f i) : (tab N f).set j x = tab N g := by
  apply List.ext_getElem?
  intro i
  rw [List.getElem?_set, tab_length]
  by_cases h : i < N
  · by_cases e : j = i
    · subst e; rw [if_pos rfl, if_pos h, tab_get h, hj]
    · rw [if_neg e, tab_get h, tab_get h, hn i (Ne.symm e)]
  · by_cases e : j = i
    · subst e; rw [if_pos rfl, if_neg h, List.getElem?_eq_none (by rw [tab_length]; omega)]
    · rw [if_neg e, List.getElem?_eq_none (by rw [tab_length]; omega), List.getElem?_eq_none (by rw [tab_length]; omega)]

/-- The graph's own box and the rows that it leads to. -/
structure Gs (R : Nat → Row) (n K G : Nat) (b : Nat → Nat) (gx : List Value) (st : Nat) : Prop where
  g0 : R 0 = ⟨some G, 1, 49, 15, 1, gx⟩
  x0 : gx[0]? = some (.slice (some ⟨b 1, 0, none⟩) n n)
  x1 : gx[1]? = some (.slice (some ⟨b 2, 0, none⟩) n n)
  x3 : gx[3]? = some (.slice (some ⟨b 3, 0, none⟩) K K)
  x4 : gx[4]? = some (.slice (some ⟨b 4, 0, none⟩) K K)
  x5 : gx[5]? = some (.slice (some ⟨b 5, 0, none⟩) K K)
  x6 : gx[6]? = some (i32 st)
  x7 : gx[7]? = some (.slice (some ⟨b 7, 0, none⟩) n n)
  x8 : gx[8]? = some (.slice (some ⟨b 8, 0, none⟩) (n + K) (n + K))
  x9 : gx[9]? = some (.slice (some ⟨b 9, 0, none⟩) (n + K) (n + K))
  x10 : gx[10]? = some (.slice (some ⟨b 10, 0, none⟩) (n + K) (n + K))

/-- Tarjan's rows. b: the blocks: 8 index, 9 low, 10 onStack, and the boxes: 11 counter, 12 calls, 13 stack, 14 seen. -/
structure Ts (R : Nat → Row) (N : Nat) (b : Nat → Nat) (s : TS) : Prop where
  idx : R 8 = ⟨some (b 8), N, 21, 1, N, tab N (fun i => i32 (s.idx i))⟩
  low : R 9 = ⟨some (b 9), N, 21, 1, N, tab N (fun i => i32 (s.low i))⟩
  on : R 10 = ⟨some (b 10), N, 4, 1, N, tab N (fun i => .bool (s.on i))⟩
  ctr : R 11 = ⟨some (b 11), 1, 21, 1, 1, [i32 s.ctr]⟩
  cbox : R 12 = ⟨some (b 12), 1, 78, 1, 1, [(R 15).val]⟩
  sbox : R 13 = ⟨some (b 13), 1, 22, 1, 1, [(R 16).val]⟩
  ebox : R 14 = ⟨some (b 14), 1, 22, 1, 1, [(R 17).val]⟩
  calls : ∃ p c, R 15 = ⟨p, c, 76, 2, s.calls.length, s.calls.reverse.flatMap (fun f => [i32 f.1, i32 f.2])⟩
  stk : ∃ p c, R 16 = ⟨p, c, 21, 1, s.stk.length, s.stk.reverse.map i32⟩
  seen : ∃ p c, R 17 = ⟨p, c, 21, 1, s.seen.length, s.seen.reverse.map i32⟩

/-- The walk's world: Tarjan's rows hold s, the other rows are R0's. -/
def Tj (w0 w : World) (R0 : Nat → Row) (E : Option (Nat × Obj)) (N : Nat) (b : Nat → Nat) (s : TS) : Prop :=
  ∃ R, Fam w0 w R E ∧ Ts R N b s ∧ ∀ i, ¬ (8 ≤ i ∧ i ≤ 17) → R i = R0 i

section
variable {w0 w w' : World} {R0 : Nat → Row} {E : Option (Nat × Obj)} {N : Nat} {b : Nat → Nat} {s : TS}
theorem Tj.only0 (h : Tj w0 w R0 E N b s) (ho : Only (fun _ => False) w w') : Tj w0 w' R0 E N b s := by
  obtain ⟨R, h, r⟩ := h
  exact ⟨R, h.only0 ho, r⟩
theorem Tj.alloc (h : Tj w0 w R0 E N b s) (o : Obj) : Tj w0 (w.alloc o) R0 E N b s := h.only0 (only_alloc w o)
theorem Tj.drew (h : Tj w0 w R0 E N b s) : Tj w0 w.drew R0 E N b s := h.only0 (only_drew w)
theorem Tj.cell (h : Tj w0 w R0 E N b s) {i c j : Nat} {v : Value} (hi : ¬ (8 ≤ i ∧ i ≤ 17)) (hc : (R0 i).blk = some c) (hj : (R0 i).xs[j]? = some v) : w.cell? ⟨c, j, none⟩ = some v := by
  obtain ⟨R, h, _, hR⟩ := h
  exact h.cell (i := i) (by rw [hR i hi]; exact hc) (by rw [hR i hi]; exact hj)
theorem Tj.cIdx (h : Tj w0 w R0 E N b s) {v : Nat} (hv : v < N) : w.cell? ⟨b 8, v, none⟩ = some (i32 (s.idx v)) := by
  obtain ⟨R, h, ht, _⟩ := h
  exact h.cell (i := 8) (by rw [ht.idx]) (by rw [ht.idx]; exact tab_get hv)
theorem Tj.cLow (h : Tj w0 w R0 E N b s) {v : Nat} (hv : v < N) : w.cell? ⟨b 9, v, none⟩ = some (i32 (s.low v)) := by
  obtain ⟨R, h, ht, _⟩ := h
  exact h.cell (i := 9) (by rw [ht.low]) (by rw [ht.low]; exact tab_get hv)
theorem Tj.cOn (h : Tj w0 w R0 E N b s) {v : Nat} (hv : v < N) : w.cell? ⟨b 10, v, none⟩ = some (.bool (s.on v)) := by
  obtain ⟨R, h, ht, _⟩ := h
  exact h.cell (i := 10) (by rw [ht.on]) (by rw [ht.on]; exact tab_get hv)
theorem Tj.cCtr (h : Tj w0 w R0 E N b s) : w.cell? ⟨b 11, 0, none⟩ = some (i32 s.ctr) := by
  obtain ⟨R, h, ht, _⟩ := h
  exact h.cell (i := 11) (by rw [ht.ctr]) (by rw [ht.ctr]; rfl)
theorem Ts.blk {R : Nat → Row} (ht : Ts R N b s) {i : Nat} (h1 : 8 ≤ i) (h2 : i ≤ 14) : (R i).blk = some (b i) := by
  have : i = 8 ∨ i = 9 ∨ i = 10 ∨ i = 11 ∨ i = 12 ∨ i = 13 ∨ i = 14 := by omega
  rcases this with rfl | rfl | rfl | rfl | rfl | rfl | rfl
  · rw [ht.idx]
  · rw [ht.low]
  · rw [ht.on]
  · rw [ht.ctr]
  · rw [ht.cbox]
  · rw [ht.sbox]
  · rw [ht.ebox]
theorem Tj.free (h : Tj w0 w R0 E N b s) {i : Nat} (h1 : 8 ≤ i) (h2 : i ≤ 14) (j : Nat) : w.frozen? ⟨b i, j, none⟩ = false := by
  obtain ⟨R, h, ht, _⟩ := h
  exact h.free (ht.blk h1 h2) j
theorem Tj.ne (h : Tj w0 w R0 E N b s) {i j : Nat} (h1 : 8 ≤ i) (h2 : i ≤ 14) (h3 : 8 ≤ j) (h4 : j ≤ 14) (hij : i ≠ j) : b i ≠ b j := by
  obtain ⟨R, h, ht, _⟩ := h
  exact h.ne (ht.blk h1 h2) (ht.blk h3 h4) hij
theorem Tj.ne0 (h : Tj w0 w R0 E N b s) {i j c : Nat} (h1 : 8 ≤ i) (h2 : i ≤ 14) (hj : ¬ (8 ≤ j ∧ j ≤ 17)) (hc : (R0 j).blk = some c) : b i ≠ c := by
  obtain ⟨R, h, ht, hR⟩ := h
  exact h.ne (ht.blk h1 h2) (by rw [hR j hj]; exact hc) (by omega)
theorem Tj.lt (h : Tj w0 w R0 E N b s) {i : Nat} (h1 : 8 ≤ i) (h2 : i ≤ 14) : b i < w.heap.size := by
  obtain ⟨R, h, ht, _⟩ := h
  exact h.lt (ht.blk h1 h2)

theorem rest_put {R : Nat → Row} {j : Nat} {r : Row} (hR : ∀ i, ¬ (8 ≤ i ∧ i ≤ 17) → R i = R0 i) (h1 : 8 ≤ j) (h2 : j ≤ 17) : ∀ i, ¬ (8 ≤ i ∧ i ≤ 17) → put R j r i = R0 i :=
  fun i hi => by rw [put_ne (by omega)]; exact hR i hi

theorem Tj.setIdx (h : Tj w0 w R0 E N b s) (v x : Nat) : Tj w0 (w.setCell ⟨b 8, v, none⟩ (i32 x)) R0 E N b { s with idx := ud s.idx v x } := by
  obtain ⟨R, h, ht, hR⟩ := h
  have hs := h.set (i := 8) (b := b 8) (j := v) (v := i32 x) (by rw [ht.idx])
  refine ⟨_, hs, ⟨?_, ?_, ?_, ?_, ?_, ?_, ?_, ?_, ?_, ?_⟩, rest_put hR (by omega) (by omega)⟩
  · rw [put_eq, ht.idx]
    simp only [Row.mk.injEq, true_and]
    exact tab_set (by simp [ud_eq]) (fun i hi => by simp [ud_ne hi])
  all_goals (simp only [put, reduceIte, Nat.reduceEqDiff])
  · exact ht.low
  · exact ht.on
  · exact ht.ctr
  · exact ht.cbox
  · exact ht.sbox
  · exact ht.ebox
  · exact ht.calls
  · exact ht.stk
  · exact ht.seen
theorem Tj.setLow (h : Tj w0 w R0 E N b s) (v x : Nat) : Tj w0 (w.setCell ⟨b 9, v, none⟩ (i32 x)) R0 E N b { s with low := ud s.low v x } := by
  obtain ⟨R, h, ht, hR⟩ := h
  have hs := h.set (i := 9) (b := b 9) (j := v) (v := i32 x) (by rw [ht.low])
  refine ⟨_, hs, ⟨?_, ?_, ?_, ?_, ?_, ?_, ?_, ?_, ?_, ?_⟩, rest_put hR (by omega) (by omega)⟩
  case refine_2 =>
    rw [put_eq, ht.low]
    simp only [Row.mk.injEq, true_and]
    exact tab_set (by simp [ud_eq]) (fun i hi => by simp [ud_ne hi])
  all_goals (simp only [put, reduceIte, Nat.reduceEqDiff])
  · exact ht.idx
  · exact ht.on
  · exact ht.ctr
  · exact ht.cbox
  · exact ht.sbox
  · exact ht.ebox
  · exact ht.calls
  · exact ht.stk
  · exact ht.seen
theorem Tj.setOn (h : Tj w0 w R0 E N b s) (v : Nat) (x : Bool) : Tj w0 (w.setCell ⟨b 10, v, none⟩ (.bool x)) R0 E N b { s with on := ud s.on v x } := by
  obtain ⟨R, h, ht, hR⟩ := h
  have hs := h.set (i := 10) (b := b 10) (j := v) (v := .bool x) (by rw [ht.on])
  refine ⟨_, hs, ⟨?_, ?_, ?_, ?_, ?_, ?_, ?_, ?_, ?_, ?_⟩, rest_put hR (by omega) (by omega)⟩
  case refine_3 =>
    rw [put_eq, ht.on]
    simp only [Row.mk.injEq, true_and]
    exact tab_set (by simp [ud_eq]) (fun i hi => by simp [ud_ne hi])
  all_goals (simp only [put, reduceIte, Nat.reduceEqDiff])
  · exact ht.idx
  · exact ht.low
  · exact ht.ctr
  · exact ht.cbox
  · exact ht.sbox
  · exact ht.ebox
  · exact ht.calls
  · exact ht.stk
  · exact ht.seen
theorem Tj.setCtr (h : Tj w0 w R0 E N b s) (x : Nat) : Tj w0 (w.setCell ⟨b 11, 0, none⟩ (i32 x)) R0 E N b { s with ctr := x } := by
  obtain ⟨R, h, ht, hR⟩ := h
  have hs := h.set (i := 11) (b := b 11) (j := 0) (v := i32 x) (by rw [ht.ctr])
  refine ⟨_, hs, ⟨?_, ?_, ?_, ?_, ?_, ?_, ?_, ?_, ?_, ?_⟩, rest_put hR (by omega) (by omega)⟩
  case refine_4 =>
    rw [put_eq, ht.ctr]
    rfl
  all_goals (simp only [put, reduceIte, Nat.reduceEqDiff])
  · exact ht.idx
  · exact ht.low
  · exact ht.on
  · exact ht.cbox
  · exact ht.sbox
  · exact ht.ebox
  · exact ht.calls
  · exact ht.stk
  · exact ht.seen

/-- The stack's row has been turned to ⟨p, c⟩ holding l, and its box says so. -/
theorem Tj.boxStk {R : Nat → Row} (ht : Ts R N b s) (hR : ∀ i, ¬ (8 ≤ i ∧ i ≤ 17) → R i = R0 i) {p : Option Nat} {c : Nat} {l : List Nat} {n : Nat} {xs : List Value} (hn : n = l.length) (hxs : xs = l.reverse.map i32) (h : Fam w0 w (put R 16 ⟨p, c, 21, 1, n, xs⟩) E) :
    Tj w0 (w.setCell ⟨b 13, 0, none⟩ (.slice (p.map fun b => ⟨b, 0, none⟩) n c)) R0 E N b { s with stk := l } := by
  have hs := h.set (i := 13) (b := b 13) (j := 0) (v := .slice (p.map fun b => ⟨b, 0, none⟩) n c) (by rw [put_ne (by omega), ht.sbox])
  refine ⟨_, hs, ⟨?_, ?_, ?_, ?_, ?_, ?_, ?_, ?_, ?_, ?_⟩, rest_put (rest_put hR (by omega) (by omega)) (by omega) (by omega)⟩
  all_goals (simp only [put, reduceIte, Nat.reduceEqDiff])
  · exact ht.idx
  · exact ht.low
  · exact ht.on
  · exact ht.ctr
  · exact ht.cbox
  · rw [ht.sbox]; rfl
  · exact ht.ebox
  · exact ht.calls
  · exact ⟨p, c, by rw [hn, hxs]⟩
  · exact ht.seen
theorem Tj.boxSeen {R : Nat → Row} (ht : Ts R N b s) (hR : ∀ i, ¬ (8 ≤ i ∧ i ≤ 17) → R i = R0 i) {p : Option Nat} {c : Nat} {l : List Nat} {n : Nat} {xs : List Value} (hn : n = l.length) (hxs : xs = l.reverse.map i32) (h : Fam w0 w (put R 17 ⟨p, c, 21, 1, n, xs⟩) E) :
    Tj w0 (w.setCell ⟨b 14, 0, none⟩ (.slice (p.map fun b => ⟨b, 0, none⟩) n c)) R0 E N b { s with seen := l } := by
  have hs := h.set (i := 14) (b := b 14) (j := 0) (v := .slice (p.map fun b => ⟨b, 0, none⟩) n c) (by rw [put_ne (by omega), ht.ebox])
  refine ⟨_, hs, ⟨?_, ?_, ?_, ?_, ?_, ?_, ?_, ?_, ?_, ?_⟩, rest_put (rest_put hR (by omega) (by omega)) (by omega) (by omega)⟩
  all_goals (simp only [put, reduceIte, Nat.reduceEqDiff])
  · exact ht.idx
  · exact ht.low
  · exact ht.on
  · exact ht.ctr
  · exact ht.cbox
  · exact ht.sbox
  · rw [ht.ebox]; rfl
  · exact ht.calls
  · exact ht.stk
  · exact ⟨p, c, by rw [hn, hxs]⟩
theorem Tj.boxCalls {R : Nat → Row} (ht : Ts R N b s) (hR : ∀ i, ¬ (8 ≤ i ∧ i ≤ 17) → R i = R0 i) {p : Option Nat} {c : Nat} {l : List (Nat × Nat)} {n : Nat} {xs : List Value} (hn : n = l.length) (hxs : xs = l.reverse.flatMap (fun f => [i32 f.1, i32 f.2])) (h : Fam w0 w (put R 15 ⟨p, c, 76, 2, n, xs⟩) E) :
    Tj w0 (w.setCell ⟨b 12, 0, none⟩ (.slice (p.map fun b => ⟨b, 0, none⟩) n c)) R0 E N b { s with calls := l } := by
  have hs := h.set (i := 12) (b := b 12) (j := 0) (v := .slice (p.map fun b => ⟨b, 0, none⟩) n c) (by rw [put_ne (by omega), ht.cbox])
  refine ⟨_, hs, ⟨?_, ?_, ?_, ?_, ?_, ?_, ?_, ?_, ?_, ?_⟩, rest_put (rest_put hR (by omega) (by omega)) (by omega) (by omega)⟩
  all_goals (simp only [put, reduceIte, Nat.reduceEqDiff])
  · exact ht.idx
  · exact ht.low
  · exact ht.on
  · exact ht.ctr
  · rw [ht.cbox]; rfl
  · exact ht.sbox
  · exact ht.ebox
  · exact ⟨p, c, by rw [hn, hxs]⟩
  · exact ht.stk
  · exact ht.seen
end
end Go.Proofs.Ybulkajny
