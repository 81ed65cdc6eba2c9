import Derived.Test.YbulkajnyMem
import Derived.Deep.AppendLies
import Derived.Deep.OwnRows
namespace Go.Proofs.Ybulkajny
open Go.RowKit Go.Sort

/-- A row of memory: its block (none: a nil slice), its capacity, its type, the cells of one element, its length, its cells. -/
structure Row where
  blk : Option Nat
  cap : Nat
  typ : TypeId
  sz : Nat
  len : Nat
  xs : List Value

def Row.val (r : Row) : Value := .slice (r.blk.map fun b => ⟨b, 0, none⟩) r.len r.cap
def dead : Row := ⟨none, 0, 0, 1, 0, []⟩
def Row.ok (r : Row) (base : Nat) (w : World) : Prop := w.ownsRow base r.typ r.sz r.val r.len r.xs
def put (R : Nat → Row) (i : Nat) (r : Row) : Nat → Row := fun j => if j = i then r else R j

section
variable {R : Nat → Row} {r r' : Row} {i j b base : Nat} {w w' w0 : World} {S : Nat → Prop}
theorem put_eq : put R i r i = r := if_pos rfl
theorem put_ne (h : j ≠ i) : put R i r j = R j := if_neg h
theorem put_self (h : R i = r) : put R i r = R := funext fun j => by
  by_cases e : j = i
  · subst e; rw [put_eq, h]
  · rw [put_ne e]
theorem put_put : put (put R i r) i r' = put R i r' := funext fun j => by
  by_cases e : j = i
  · subst e; rw [put_eq, put_eq]
  · rw [put_ne e, put_ne e, put_ne e]
theorem put_comm (h : i ≠ j) : put (put R i r) j r' = put (put R j r') i r := funext fun k => by
  by_cases e : k = i
  · subst e; rw [put_ne h, put_eq, put_eq]
  · by_cases e' : k = j
    · subst e'; rw [put_eq, put_ne e, put_eq]
    · rw [put_ne e', put_ne e, put_ne e, put_ne e']

theorem Row.ok.shape (h : r.ok base w) (hb : r.blk = some b) : ∃ cur, w.heap[b]? = some (.cells cur r.typ (0, 0)) ∧ base ≤ b ∧ r.len ≤ r.cap ∧ r.cap ≤ maxLen ∧ cur.size = r.cap * r.sz ∧ cur.toList.take (r.len * r.sz) = r.xs := by
  rcases h.2 with ⟨hv, _⟩ | ⟨g, cap, cur, hv, h1, h2, h3, h4, h5, h6⟩
  · simp [Row.val, hb] at hv
  · simp [Row.val, hb] at hv
    obtain ⟨rfl, rfl⟩ := hv
    exact ⟨cur, h2, h1, h3, h4, h5, h6⟩
theorem Row.ok.of_shape {cur : Array Value} (hb : r.blk = some b) (h1 : w.heap[b]? = some (.cells cur r.typ (0, 0))) (h2 : base ≤ b) (h3 : r.len ≤ r.cap) (h4 : r.cap ≤ maxLen) (h5 : cur.size = r.cap * r.sz) (h6 : cur.toList.take (r.len * r.sz) = r.xs) : r.ok base w := by
  refine ⟨?_, .inr ⟨b, r.cap, cur, by simp [Row.val, hb], h2, h1, h3, h4, h5, h6⟩⟩
  rw [← h6, List.length_take, Array.length_toList, h5]
  exact Nat.min_eq_left (Nat.mul_le_mul_right _ h3)
theorem Row.ok.blk_lt (h : r.ok base w) (hb : r.blk = some b) : base ≤ b ∧ b < w.heap.size := by
  obtain ⟨cur, h1, h2, _⟩ := h.shape hb
  exact ⟨h2, (Array.getElem?_eq_some_iff.1 h1).1⟩
theorem Row.ok.length (h : r.ok base w) : r.xs.length = r.len * r.sz := h.1
theorem Row.ok.only (h : r.ok base w) (ho : Only S w w') (hn : ∀ b, r.blk = some b → ¬ S b) : r.ok base w' := by
  refine ⟨h.1, ?_⟩
  rcases h.2 with hv | ⟨g, cap, cur, hv, h1, h2, h3⟩
  · exact .inl hv
  · refine .inr ⟨g, cap, cur, hv, h1, ho.at_block h2 (hn g ?_), h3⟩
    unfold Row.val at hv
    cases hb : r.blk with
    | none => rw [hb] at hv; cases hv
    | some b => rw [hb] at hv; cases hv; rfl
theorem dead_ok (base : Nat) (w : World) : dead.ok base w := ⟨rfl, .inl ⟨rfl, rfl⟩⟩
end

/-- The rows R, each in a block of its own behind w0's heap; beside them perhaps one block more, E; what lay in w0 lies there yet. -/
structure Fam (w0 w : World) (R : Nat → Row) (E : Option (Nat × Obj)) : Prop where
  ok : ∀ i, (R i).ok w0.heap.size w
  inj : ∀ i j b, i ≠ j → (R i).blk = some b → (R j).blk ≠ some b
  ext : ∀ b o, E = some (b, o) → w.heap[b]? = some o ∧ w0.heap.size ≤ b ∧ ∀ i, (R i).blk ≠ some b
  below : Below w0.heap.size w0 w

section
variable {R : Nat → Row} {E : Option (Nat × Obj)} {r r' : Row} {i j b : Nat} {w w' w0 : World}

theorem Fam.turn (h : Fam w0 w R E) (i : Nat) (r' : Row) (ho : Only (fun k => (R i).blk = some k) w w') (hr : r'.ok w0.heap.size w') (hb : ∀ b, r'.blk = some b → (R i).blk = some b ∨ w.heap.size ≤ b) : Fam w0 w' (put R i r') E := by
  refine ⟨fun j => ?_, fun j k b hjk hj => ?_, fun b o he => ?_, ?_⟩
  · by_cases e : j = i
    · subst e; rw [put_eq]; exact hr
    · rw [put_ne e]; exact (h.ok j).only ho (fun b hb hi => h.inj j i b e hb hi)
  · by_cases e : j = i
    · subst e
      rw [put_eq] at hj
      rw [put_ne (Ne.symm hjk)]
      rcases hb b hj with hh | hh
      · exact h.inj j k b hjk hh
      · intro hk
        have := ((h.ok k).blk_lt hk).2
        omega
    · rw [put_ne e] at hj
      by_cases e' : k = i
      · subst e'
        rw [put_eq]
        intro hk
        rcases hb b hk with hh | hh
        · exact h.inj j k b e hj hh
        · have := ((h.ok j).blk_lt hj).2
          omega
      · rw [put_ne e']; exact h.inj j k b hjk hj
  · obtain ⟨h1, h2, h3⟩ := h.ext b o he
    refine ⟨ho.at_block h1 (h3 i), h2, fun j => ?_⟩
    by_cases e : j = i
    · subst e
      rw [put_eq]
      intro hh
      rcases hb b hh with hh | hh
      · exact h3 j hh
      · have := (Array.getElem?_eq_some_iff.1 h1).1
        omega
    · rw [put_ne e]; exact h3 j
  · exact h.below.trans (ho.below h.below.size (fun k _ hk => ((h.ok i).blk_lt hk).1))

theorem Fam.only0 (h : Fam w0 w R E) (ho : Only (fun _ => False) w w') : Fam w0 w' R E := by
  refine ⟨fun j => (h.ok j).only ho (fun _ _ hf => hf), h.inj, fun b o he => ?_, h.below.trans (ho.below h.below.size (fun _ _ hf => hf.elim))⟩
  obtain ⟨h1, h2, h3⟩ := h.ext b o he
  exact ⟨ho.at_block h1 (fun hf => hf), h2, h3⟩
theorem Fam.alloc (h : Fam w0 w R E) (o : Obj) : Fam w0 (w.alloc o) R E := h.only0 (only_alloc w o)
theorem Fam.drew (h : Fam w0 w R E) : Fam w0 w.drew R E := h.only0 (only_drew w)
theorem Fam.drewN (h : Fam w0 w R E) (n : Nat) : Fam w0 (w.drewN n) R E := h.only0 (only_drewN w n)
theorem Fam.size (h : Fam w0 w R E) : w0.heap.size ≤ w.heap.size := h.below.size

theorem Fam.lt (h : Fam w0 w R E) {i b : Nat} (hb : (R i).blk = some b) : b < w.heap.size := ((h.ok i).blk_lt hb).2
theorem Fam.le (h : Fam w0 w R E) {i b : Nat} (hb : (R i).blk = some b) : w0.heap.size ≤ b := ((h.ok i).blk_lt hb).1
theorem Fam.ne (h : Fam w0 w R E) {i j b c : Nat} (hi : (R i).blk = some b) (hj : (R j).blk = some c) (hij : i ≠ j) : b ≠ c := fun e => h.inj i j b hij hi (e ▸ hj)
theorem Fam.cell (h : Fam w0 w R E) {i b j : Nat} {v : Value} (hb : (R i).blk = some b) (hj : (R i).xs[j]? = some v) : w.cell? ⟨b, j, none⟩ = some v := by
  obtain ⟨cur, h1, _, _, _, _, h6⟩ := (h.ok i).shape hb
  rw [← h6, List.getElem?_take] at hj
  split at hj
  · simp [World.cell?, h1]
    simpa using hj
  · cases hj
theorem Fam.free (h : Fam w0 w R E) {i b : Nat} (hb : (R i).blk = some b) (j : Nat) : w.frozen? ⟨b, j, none⟩ = false := by
  obtain ⟨cur, h1, _⟩ := (h.ok i).shape hb
  simp [World.frozen?, h1]

/-- A cell of row i is set. -/
theorem Fam.set (h : Fam w0 w R E) {i b j : Nat} {v : Value} (hb : (R i).blk = some b) :
    Fam w0 (w.setCell ⟨b, j, none⟩ v) (put R i { R i with xs := (R i).xs.set j v }) E := by
  refine h.turn i _ ((only_setCell w ⟨b, j, none⟩ v).mono (fun k _ hk => by rw [hb, hk])) ?_ (fun c hc => .inl hc)
  obtain ⟨cur, h1, h2, h3, h4, h5, h6⟩ := (h.ok i).shape hb
  refine Row.ok.of_shape (cur := cur.setIfInBounds j v) hb ?_ h2 h3 h4 (by simpa using h5) ?_
  · simp [World.setCell, Array.getElem?_modify, h1]
  · show List.take _ _ = _
    rw [← h6, Array.toList_setIfInBounds, List.take_set]

/-- A new block for row i. -/
theorem Fam.make (h : Fam w0 w R E) {i : Nat} (cs : Array Value) (t : TypeId) (sz n : Nat) (hs : cs.size = n * sz) (hn : n ≤ maxLen) :
    Fam w0 (w.alloc (.cells cs t)) (put R i ⟨some w.heap.size, n, t, sz, n, cs.toList⟩) E := by
  refine h.turn i _ ((only_alloc w _).mono (fun _ _ hf => hf.elim)) ?_ (fun c hc => .inr (by cases hc; exact Nat.le_refl _))
  refine Row.ok.of_shape (b := w.heap.size) (cur := cs) rfl (heap_alloc_new w _) h.size (Nat.le_refl _) hn hs ?_
  show List.take (n * sz) cs.toList = cs.toList
  exact List.take_of_length_le (by simp [hs])

/-- Row i has been appended to. -/
theorem Fam.grown (h : Fam w0 w R E) {i n g cap : Nat} {xs : List Value} {ob : Option Nat} (hr : w'.ownsRow w0.heap.size (R i).typ (R i).sz (.slice (some ⟨g, 0, none⟩) n cap) n xs) (hg : w.grownBy w' ob) (ho : ob = (R i).val.ownBlock) (hat : (R i).val.ownBlock = some g ∨ w.heap.size ≤ g) :
    Fam w0 w' (put R i ⟨some g, cap, (R i).typ, (R i).sz, n, xs⟩) E := by
  have hbk : (R i).val.ownBlock = (R i).blk := by
    unfold Row.val
    cases (R i).blk <;> rfl
  subst ho
  rw [hbk] at hat hg
  exact h.turn i _ ((only_grownBy hg).mono (fun _ _ hk => hk.symm)) hr (fun c hc => by cases hc; exact hat)

/-- Row i is cut to its first m elements. -/
theorem Fam.cut (h : Fam w0 w R E) {i m : Nat} (hm : m ≤ (R i).len) : Fam w0 w (put R i { R i with len := m, xs := (R i).xs.take (m * (R i).sz) }) E := by
  refine h.turn i _ ((Only.refl _ w)) ?_ (fun c hc => .inl hc)
  cases hb : (R i).blk with
  | none =>
    have ho := h.ok i
    rcases ho.2 with ⟨hv, hn⟩ | ⟨g, cap, cur, hv, _⟩
    · have hm0 : m = 0 := by omega
      subst hm0
      refine ⟨by simp, .inl ⟨?_, rfl⟩⟩
      simp only [Row.val, hb] at hv ⊢
      injection hv with _ _ hc
      show Value.slice none 0 (R i).cap = _
      rw [hc]
    · simp [Row.val, hb] at hv
  | some b =>
    obtain ⟨cur, h1, h2, h3, h4, h5, h6⟩ := (h.ok i).shape hb
    refine Row.ok.of_shape (cur := cur) hb h1 h2 (Nat.le_trans hm h3) h4 h5 ?_
    show List.take _ _ = List.take _ _
    rw [← h6, List.take_take]
    congr 1
    exact (Nat.min_eq_left (Nat.mul_le_mul_right _ hm)).symm

/-- Row i is given up. -/
theorem Fam.drop (h : Fam w0 w R E) (i : Nat) : Fam w0 w (put R i dead) E :=
  h.turn i _ (Only.refl _ w) (dead_ok _ _) (fun c hc => by cases hc)

/-- Row i bears another number. -/
theorem Fam.move (h : Fam w0 w R E) {i j : Nat} (hij : i ≠ j) : Fam w0 w (put (put R j (R i)) i dead) E := by
  refine ⟨fun k => ?_, fun k l b hkl hk => ?_, fun b o he => ?_, h.below⟩
  · by_cases e : k = i
    · subst e; rw [put_eq]; exact dead_ok _ _
    · rw [put_ne e]
      by_cases e' : k = j
      · subst e'; rw [put_eq]; exact h.ok i
      · rw [put_ne e']; exact h.ok k
  · by_cases e : k = i
    · subst e; rw [put_eq] at hk; cases hk
    · rw [put_ne e] at hk
      by_cases f : l = i
      · subst f; rw [put_eq]; intro hf; cases hf
      · rw [put_ne f]
        by_cases e' : k = j
        · subst e'
          rw [put_eq] at hk
          rw [put_ne (Ne.symm hkl)]
          exact h.inj i l b (Ne.symm f) hk
        · rw [put_ne e'] at hk
          by_cases f' : l = j
          · subst f'; rw [put_eq]; exact h.inj k i b e hk
          · rw [put_ne f']; exact h.inj k l b hkl hk
  · obtain ⟨h1, h2, h3⟩ := h.ext b o he
    refine ⟨h1, h2, fun k => ?_⟩
    by_cases e : k = i
    · subst e; rw [put_eq]; intro hf; cases hf
    · rw [put_ne e]
      by_cases e' : k = j
      · subst e'; rw [put_eq]; exact h3 i
      · rw [put_ne e']; exact h3 k

theorem Fam.start (w : World) (R : Nat → Row) (hR : ∀ i, R i = dead) : Fam w w R none :=
  ⟨fun i => by rw [hR i]; exact dead_ok _ _, fun i j b _ h => by (rw [hR i] at h; cases h), fun b o he => (by cases he), Below.refl _ _⟩

/-- What lay in w0 reads as it did. -/
theorem Fam.old (h : Fam w0 w R E) {p : Addr} {v : Value} (hp : w0.cell? p = some v) : w.cell? p = some v :=
  (h.below.cell (World.block_lt_of_cell? w0 p hp)).trans hp

/-- The block beside the rows: laid, turned. -/
theorem Fam.lay (h : Fam w0 w R none) (o : Obj) : Fam w0 (w.alloc o) R (some (w.heap.size, o)) := by
  have h' := h.alloc o
  refine ⟨h'.ok, h'.inj, fun b o' he => ?_, h'.below⟩
  cases he
  exact ⟨heap_alloc_new w o, h.size, fun i hi => Nat.lt_irrefl _ (h.lt hi)⟩
theorem Fam.turnE {o : Obj} (h : Fam w0 w R (some (b, o))) {o' : Obj} (ho : Only (fun k => k = b) w w') (hb : w'.heap[b]? = some o') : Fam w0 w' R (some (b, o')) := by
  obtain ⟨h1, h2, h3⟩ := h.ext b o rfl
  refine ⟨fun j => (h.ok j).only ho (fun c hc e => h3 j (e ▸ hc)), h.inj, fun c o'' he => ?_, h.below.trans (ho.below h.below.size (fun k _ hk => by rw [hk]; exact h2))⟩
  cases he
  exact ⟨hb, h2, h3⟩
theorem Fam.dropE (h : Fam w0 w R E) : Fam w0 w R none := ⟨h.ok, h.inj, fun b o he => (by cases he), h.below⟩
end
end Go.Proofs.Ybulkajny
