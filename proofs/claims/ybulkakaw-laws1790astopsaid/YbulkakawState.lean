import Derived.Test.YbulkakawKeys
import Derived.Deep.OwnRows
namespace Go.Proofs.Ybulkakaw
open Go.RowKit Go.Sort
variable {base : Nat} {B B' : Nat → Nat} {m : Nat} {due due' : Nat → Int} {run run' : Nat → Bool} {idx : Nat → Int} {K g c : Nat} {xs : Array Nat} {w w' : World} {p : Option Addr}

theorem mem_lt (h : Q base B m due run idx K p c xs w) {t : Nat} (ht : t ∈ xs.toList) : t < m := by
  obtain ⟨i, hi, rfl⟩ := List.getElem_of_mem ht
  have hi' : i < xs.size := by simpa using hi
  have := h.mem i hi'
  rw [getElem!_pos xs i hi'] at this
  simpa using this

theorem Has.ext (h : Has base B m due run K w) (h1 : ∀ t, t < m → due' t = due t) (h2 : ∀ t, t < m → run' t = run t) (h3 : ∀ t, t < m → B' t = B t) : Has base B' m due' run' K w := by
  obtain ⟨idx, p, c, xs, h⟩ := h
  refine ⟨idx, p, c, xs, ⟨⟨fun j hj => ?_, fun i j hi hj e => ?_, fun j hj => ?_⟩, h.q.box, ?_, h.q.mem, h.q.hK⟩, h.ix, h.nd, heap_congr (Nat.le_refl _) h.hp (fun t ht => h1 t (mem_lt h.q ht)), fun t => ?_, h.out⟩
  · rw [h1 j hj, h2 j hj, h3 j hj]; exact h.q.task j hj
  · rw [h3 i hi, h3 j hj] at e; exact h.q.inj i j hi hj e
  · rw [h3 j hj]; exact h.q.low j hj
  · have e : xs.toList.map (es B') = xs.toList.map (es B) := List.map_congr_left (fun t ht => by simp only [es]; rw [h3 t (mem_lt h.q ht)])
    rw [e]; exact h.q.own
  · rw [h.mem t]
    constructor
    · rintro ⟨a, b, d⟩; exact ⟨a, by rw [h1 t a]; exact b, by rw [h2 t a]; exact d⟩
    · rintro ⟨a, b, d⟩; exact ⟨a, by rw [← h1 t a]; exact b, by rw [← h2 t a]; exact d⟩

/-- One task more, with no due time. -/
theorem Has.new (h : Has base B m due run K w) (b : Nat) (r : Bool) (hb : base ≤ b) (ht : w.heap[b]? = some (.cells (tcells b 0 (-1) r) 47 (0, 0))) (hn : ∀ j, j < m → B j ≠ b) (hd : due m = 0) (hr : run m = r) (hB : B m = b) :
    Has base B (m + 1) due run K w := by
  obtain ⟨idx, p, c, xs, h⟩ := h
  have hmx : m ∉ xs.toList := fun e => absurd (mem_lt h.q e) (Nat.lt_irrefl _)
  refine ⟨fun t => if t = m then -1 else idx t, p, c, xs, ⟨⟨fun j hj => ?_, fun i j hi hj e => ?_, fun j hj => ?_⟩, h.q.box, h.q.own, fun k hk => Nat.lt_succ_of_lt (h.q.mem k hk), h.q.hK⟩, fun k hk => ?_, h.nd, h.hp, fun t => ?_, fun t ht hn => ?_⟩
  · by_cases e : j = m
    · subst e; rw [hB, hd, hr, if_pos rfl]; exact ht
    · rw [if_neg e]; exact h.q.task j (by omega)
  · by_cases e1 : i = m
    · by_cases e2 : j = m
      · omega
      · rw [e1, hB] at e; exact absurd e.symm (hn j (by omega))
    · by_cases e2 : j = m
      · rw [e2, hB] at e; exact absurd e (hn i (by omega))
      · exact h.q.inj i j (by omega) (by omega) e
  · by_cases e : j = m
    · rw [e, hB]; exact hb
    · exact h.q.low j (by omega)
  · have e : xs[k]! ≠ m := fun e => hmx (e ▸ get_mem hk)
    rw [if_neg e]; exact h.ix k hk
  · rw [h.mem t]
    constructor
    · rintro ⟨a, b, d⟩; exact ⟨by omega, b, d⟩
    · rintro ⟨a, b, d⟩
      refine ⟨?_, b, d⟩
      rcases Nat.lt_succ_iff_lt_or_eq.1 a with a | a
      · exact a
      · rw [a] at b; exact absurd hd b
  · by_cases e : t = m
    · rw [if_pos e]
    · rw [if_neg e]; exact h.out t (by omega) hn

theorem Has.setOther {a : Addr} {v : Value} (h : Has base B m due run K w) (hk : a.block ≠ K) (hB : ∀ j, j < m → a.block ≠ B j) (hg : ∀ cs, w.heap[a.block]? ≠ some (.cells cs 53 (0, 0))) : Has base B m due run K (w.setCell a v) := by
  obtain ⟨idx, p, c, xs, h⟩ := h
  have o := only_setCell w a v
  refine ⟨idx, p, c, xs, ⟨⟨fun j hj => o.at_block (h.q.task j hj) (fun e => hB j hj e.symm), h.q.inj, h.q.low⟩, o.at_block h.q.box (fun e => hk e.symm), owns_other h.q.own (fun k cs hk => ?_), h.q.mem, h.q.hK⟩, h.ix, h.nd, h.hp, h.mem, h.out⟩
  refine o.block k (Array.getElem?_eq_some_iff.1 hk).1 (fun e => hg cs ?_)
  rw [← e]; exact hk

/-- The law's world with i tasks made: the keys in block 'base', the row of pointers in the next. -/
structure St (w0 : World) (n : Nat) (due : Nat → Int) (run : Nat → Bool) (B : Nat → Nat) (i : Nat) (w : World) : Prop where
  has : Has w0.heap.size B i due run w0.heap.size w
  ts : ∃ cur : Array Value, w.heap[w0.heap.size + 1]? = some (.cells cur 31 (0, 0)) ∧ cur.size = n ∧ ∀ j, j < i → cur[j]? = some (.pointer (some ⟨B j, 0, none⟩))
  only : Only (fun _ => False) w0 w

theorem St.only0 {w0 : World} {n i : Nat} (h : St w0 n due run B i w) (o : Only (fun _ => False) w w') : St w0 n due run B i w' := by
  obtain ⟨cur, h1, h2⟩ := h.ts
  exact ⟨h.has.only0 o, ⟨cur, o.at_block h1 (fun h => h), h2⟩, h.only.trans o⟩

theorem St.start (w0 : World) (n : Nat) (cur : Array Value) (hc : cur.size = n) : St w0 n due run B 0 ((w0.alloc (.cells #[.map none, .map none, .slice none 0 0] 29)).alloc (.cells cur 31)) := by
  obtain ⟨t1, t2⟩ := two_boxes w0 (.cells #[.map none, .map none, .slice none 0 0] 29) (.cells cur 31)
  refine ⟨⟨fun _ => 0, none, 0, #[], ⟨⟨fun j hj => absurd hj (Nat.not_lt_zero _), fun i j hi => absurd hi (Nat.not_lt_zero _), fun j hj => absurd hj (Nat.not_lt_zero _)⟩, t1, ⟨rfl, .inl ⟨rfl, rfl⟩⟩, fun k hk => absurd hk (Nat.not_lt_zero _), Nat.le_refl _⟩,
    fun k hk => absurd hk (Nat.not_lt_zero _), List.nodup_nil, fun i k _ hk => absurd hk (Nat.not_lt_zero _), fun t => ?_, fun t ht => absurd ht (Nat.not_lt_zero _)⟩, ⟨cur, t2, hc, fun j hj => absurd hj (Nat.not_lt_zero _)⟩, only_two _ _ _⟩
  simp

/-- A round of the building loop, up to the call of 'schedule'. -/
theorem St.round {w0 : World} {n k : Nat} (h : St w0 n due run B k w) (hk : k < n) (hn : n ≤ 1024) (r : Bool) (hr : run k = r) (w2 : World)
    (o2 : Only (fun _ => False) ((w.setCell ⟨w0.heap.size + 1, k, none⟩ (.pointer (some ⟨w.heap.size, 0, none⟩))).alloc (.cells (tcells w.heap.size 0 (-1) r) 47)) w2) :
    Calls Yba.prog 4 #[.pointer (some ⟨w0.heap.size, 0, none⟩), .pointer (some ⟨w.heap.size, 0, none⟩), tval (due k)] w2 fun e w' => e = .returned (.tuple #[]) ∧ ∃ B', St w0 n due run B' (k + 1) w' := by
  obtain ⟨cur, h1, h2, h3⟩ := h.ts
  have hlt : w0.heap.size + 1 < w.heap.size := (Array.getElem?_eq_some_iff.1 h1).1
  obtain ⟨idx, p, c, xs, hI⟩ := h.has
  have hBlt : ∀ j, j < k → B j < w.heap.size := fun j hj => (Array.getElem?_eq_some_iff.1 (hI.q.task j hj)).1
  have hBt : ∀ j, j < k → w0.heap.size + 1 ≠ B j := fun j hj e => by
    have := hI.q.task j hj
    rw [← e, h1] at this
    cases this
  have s1 : (w.setCell ⟨w0.heap.size + 1, k, none⟩ (.pointer (some ⟨w.heap.size, 0, none⟩))).heap.size = w.heap.size := by simp [World.setCell]
  have H1 : Has w0.heap.size B k due run w0.heap.size (w.setCell ⟨w0.heap.size + 1, k, none⟩ (.pointer (some ⟨w.heap.size, 0, none⟩))) :=
    h.has.setOther (by simp) hBt (fun cs e => by rw [h1] at e; cases e)
  have H2 := (H1.only0 (only_alloc _ (.cells (tcells w.heap.size 0 (-1) r) 47))).only0 o2
  have hnew := heap_alloc_new (w.setCell ⟨w0.heap.size + 1, k, none⟩ (.pointer (some ⟨w.heap.size, 0, none⟩))) (.cells (tcells w.heap.size 0 (-1) r) 47)
  rw [s1] at hnew
  have hnew2 := o2.at_block hnew (fun h => h)
  have hrow := set_block (o := k) (v := .pointer (some ⟨w.heap.size, 0, none⟩)) h1 rfl
  have hrow2 := o2.at_block ((only_alloc _ (.cells (tcells w.heap.size 0 (-1) r) 47)).at_block hrow (fun h => h)) (fun h => h)
  have o0 : Only (fun _ => False) w0 w2 := ((h.only.step (only_setCell w _ _) (fun i hi e => by simp at e; omega)).trans (only_alloc _ _)).trans o2
  have H3 : Has w0.heap.size (fun t => if t = k then w.heap.size else B t) k (upd due k 0) run w0.heap.size w2 :=
    H2.ext (fun t ht => ne_upd (by omega)) (fun t ht => rfl) (fun t ht => if_neg (by omega))
  have H4 := H3.new w.heap.size r (by omega) hnew2 (fun j hj => by rw [if_neg (by omega)]; exact Nat.ne_of_lt (hBlt j hj)) eq_upd hr (if_pos rfl)
  have R := sched4 (x := k) H4 (by omega) (due k) (by omega) (.inl eq_upd) (fun j => j = w0.heap.size + 1) (fun j hj => by rw [hj]; exact ⟨_, _, hrow2, by decide, by decide, by decide⟩)
  have eB : (if k = k then w.heap.size else B k) = w.heap.size := if_pos rfl
  rw [eB] at R
  refine R.mono ?_
  rintro e w' ⟨rfl, h5, o5⟩
  refine ⟨rfl, fun t => if t = k then w.heap.size else B t, h5.ext (fun t ht => ?_) (fun _ _ => rfl) (fun _ _ => rfl), ⟨_, (o5.block _ (Array.getElem?_eq_some_iff.1 hrow2).1 (fun e => e.2 rfl)).trans hrow2, by simpa using h2, fun j hj => ?_⟩, o0.step o5 (fun i hi e => absurd hi (by have := e.1; omega))⟩
  · by_cases e : t = k
    · rw [e, eq_upd]
    · rw [ne_upd e, ne_upd e]
  · by_cases e : j = k
    · subst e; simp [h2, hk]
    · have : j < k := by omega
      simp only [if_neg e]
      rw [Array.getElem?_setIfInBounds_ne (by omega)]
      exact h3 j this

section
variable {w0 : World} {n i : Nat}
theorem St.tsCell (h : St w0 n due run B i w) (j : Nat) (hj : j < i) : w.cell? ⟨w0.heap.size + 1, j, none⟩ = some (.pointer (some ⟨B j, 0, none⟩)) := by
  obtain ⟨cur, h1, _, h3⟩ := h.ts
  exact cell_of_block h1 (h3 j hj)
theorem St.task (h : St w0 n due run B i w) (j : Nat) (hj : j < i) : ∃ ix, w.heap[B j]? = some (.cells (tcells (B j) (due j) ix (run j)) 47 (0, 0)) ∧ (due j = 0 → ix = -1) := by
  obtain ⟨idx, p, c, xs, hI⟩ := h.has
  refine ⟨idx j, hI.q.task j hj, fun h0 => hI.out j hj (fun hm => ?_)⟩
  exact absurd h0 ((hI.mem j).1 hm).2.1
theorem St.stop (h : St w0 n due run B n w) (hn : n ≤ 1024) (x : Nat) (hx : x < n) (now : Int) :
    Calls Yba.prog 6 #[.pointer (some ⟨w0.heap.size, 0, none⟩), .pointer (some ⟨B x, 0, none⟩), tval now] w fun e w' => e = .returned (.bool (!(due x == 0) && !(decide (now < due x)))) ∧
      St w0 n (if (!(due x == 0) && !(decide (now < due x))) = true then due else upd due x 0) run B n w' := by
  obtain ⟨cur, h1, h2, h3⟩ := h.ts
  refine (stop_any h.has hn x now hx (fun j => j = w0.heap.size + 1) (fun j hj => by rw [hj]; exact ⟨_, _, h1, by decide, by decide, by decide⟩)).mono ?_
  rintro e w' ⟨rfl, h5, o5⟩
  exact ⟨rfl, h5, ⟨cur, (o5.block _ (Array.getElem?_eq_some_iff.1 h1).1 (fun e => e.2 rfl)).trans h1, h2, h3⟩, h.only.step o5 (fun i hi e => absurd hi (by have := e.1; omega))⟩
end

/-- How many of the first k tasks have a due time and do not run. -/
def cnt (due : Nat → Int) (run : Nat → Bool) (k : Nat) : Nat := ((List.range k).filter (fun t => decide (due t ≠ 0 ∧ run t = false))).length
theorem cnt_zero : cnt due run 0 = 0 := rfl
theorem cnt_succ_in (k : Nat) (h1 : due k ≠ 0) (h2 : run k = false) : cnt due run (k + 1) = cnt due run k + 1 := by
  simp [cnt, List.range_succ, h1, h2]
theorem cnt_succ_out (k : Nat) (h : due k = 0 ∨ run k = true) : cnt due run (k + 1) = cnt due run k := by
  rcases h with h | h <;> simp [cnt, List.range_succ, h]
theorem cnt_le (k : Nat) : cnt due run k ≤ k := Nat.le_trans (List.length_filter_le _ _) (by simp)
theorem cnt_congr (k : Nat) (h : ∀ t, t < k → due' t = due t) : cnt due' run k = cnt due run k := by
  unfold cnt
  congr 1
  apply List.filter_congr
  intro t ht
  rw [h t (by simpa using ht)]
theorem cnt_upd (x : Nat) : ∀ k, cnt (upd due x 0) run k + (if x < k ∧ due x ≠ 0 ∧ run x = false then 1 else 0) = cnt due run k := by
  intro k
  induction k with
  | zero => simp [cnt]
  | succ k ih =>
    by_cases hx : x = k
    · subst hx
      have e : cnt (upd due x 0) run x = cnt due run x := cnt_congr x (fun t ht => ne_upd (by omega))
      rw [cnt_succ_out (due := upd due x 0) x (.inl eq_upd), e]
      by_cases hin : due x ≠ 0 ∧ run x = false
      · rw [if_pos ⟨by omega, hin⟩, cnt_succ_in x hin.1 hin.2]
      · rw [if_neg (fun h => hin h.2), cnt_succ_out x]
        · rfl
        · by_cases h0 : due x = 0
          · exact .inl h0
          · right
            cases hr : run x with
            | true => rfl
            | false => exact absurd ⟨h0, hr⟩ hin
    · have hk : upd due x 0 k = due k := ne_upd (fun e => hx e.symm)
      have e1 : (x < k + 1 ∧ due x ≠ 0 ∧ run x = false) ↔ (x < k ∧ due x ≠ 0 ∧ run x = false) := by
        constructor
        · rintro ⟨a, b⟩; exact ⟨by omega, b⟩
        · rintro ⟨a, b⟩; exact ⟨by omega, b⟩
      simp only [e1]
      by_cases hin : due k ≠ 0 ∧ run k = false
      · rw [cnt_succ_in (due := upd due x 0) k (by rw [hk]; exact hin.1) hin.2, cnt_succ_in k hin.1 hin.2]
        omega
      · have ho : due k = 0 ∨ run k = true := by
          by_cases h0 : due k = 0
          · exact .inl h0
          · right
            cases hr : run k with
            | true => rfl
            | false => exact absurd ⟨h0, hr⟩ hin
        rw [cnt_succ_out (due := upd due x 0) k (by rw [hk]; exact ho), cnt_succ_out k ho]
        exact ih
theorem Inv.cnt (h : Inv base B m due run idx K p c xs w) : xs.size = cnt due run m := h.count
end Go.Proofs.Ybulkakaw
