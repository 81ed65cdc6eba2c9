import Derived.Sort.Grow
import Derived.Below
import Derived.Deep.Draws
import Derived.OneCell
namespace Go.Proofs.Ybulkajny
open Go.RowKit Go.Sort
set_option linter.unusedSectionVars false

/-- From w to w' nothing has turned but blocks of S and new blocks behind the heap. -/
structure Only (S : Nat → Prop) (w w' : World) : Prop where
  os : w'.os = w.os
  tape : w'.tape = w.tape
  output : w'.output = w.output
  size : w.heap.size ≤ w'.heap.size
  block : ∀ k, k < w.heap.size → ¬ S k → w'.heap[k]? = w.heap[k]?

namespace Only
variable {S T : Nat → Prop} {w w' w'' : World}
theorem refl (S : Nat → Prop) (w : World) : Only S w w := ⟨rfl, rfl, rfl, Nat.le_refl _, fun _ _ _ => rfl⟩
theorem trans (h : Only S w w') (k : Only S w' w'') : Only S w w'' :=
  ⟨k.os.trans h.os, k.tape.trans h.tape, k.output.trans h.output, Nat.le_trans h.size k.size, fun i hi hn => (k.block i (Nat.lt_of_lt_of_le hi h.size) hn).trans (h.block i hi hn)⟩
theorem mono (h : Only S w w') (hST : ∀ k, k < w.heap.size → S k → T k) : Only T w w' := ⟨h.os, h.tape, h.output, h.size, fun i hi hn => h.block i hi (fun hs => hn (hST i hi hs))⟩
/-- A second step that turns blocks of S or blocks that were not there in w. -/
theorem step (h : Only S w w') (k : Only T w' w'') (hTS : ∀ i, i < w.heap.size → T i → S i) : Only S w w'' :=
  ⟨k.os.trans h.os, k.tape.trans h.tape, k.output.trans h.output, Nat.le_trans h.size k.size, fun i hi hn => (k.block i (Nat.lt_of_lt_of_le hi h.size) (fun ht => hn (hTS i hi ht))).trans (h.block i hi hn)⟩
theorem below {B : Nat} (h : Only S w w') (hB : B ≤ w.heap.size) (hS : ∀ k, k < w.heap.size → S k → B ≤ k) : Below B w w' :=
  ⟨h.os, h.tape, h.output, h.size, fun k hk => h.block k (by omega) (fun hs => by have := hS k (by omega) hs; omega)⟩
theorem cell (h : Only S w w') {p : Addr} (hp : p.block < w.heap.size) (hn : ¬ S p.block) : w'.cell? p = w.cell? p := World.cell?_of_block (h.block p.block hp hn)
theorem frozen (h : Only S w w') {p : Addr} (hp : p.block < w.heap.size) (hn : ¬ S p.block) : w'.frozen? p = w.frozen? p := World.frozen?_of_block (h.block p.block hp hn)
theorem at_block (h : Only S w w') {k : Nat} {o : Obj} (ho : w.heap[k]? = some o) (hn : ¬ S k) : w'.heap[k]? = some o := (h.block k (Array.getElem?_eq_some_iff.1 ho).1 hn).trans ho
end Only

theorem only_alloc (w : World) (o : Obj) : Only (fun _ => False) w (w.alloc o) := ⟨rfl, rfl, rfl, by simp, fun k hk _ => heap_alloc_old w o k hk⟩
theorem only_drewN (w : World) (n : Nat) : Only (fun _ => False) w (w.drewN n) := ⟨rfl, rfl, rfl, Nat.le_refl _, fun _ _ _ => rfl⟩
theorem only_drew (w : World) : Only (fun _ => False) w w.drew := ⟨rfl, rfl, rfl, Nat.le_refl _, fun _ _ _ => rfl⟩
theorem only_ahead (w : World) (n : Nat) : Only (fun _ => False) w (Sort.ahead w n) := ⟨rfl, rfl, rfl, Nat.le_refl _, fun _ _ _ => rfl⟩
theorem only_grow (w : World) (os : Array Obj) : Only (fun _ => False) w (grow w os) := ⟨rfl, rfl, rfl, by simp, fun _ hk _ => heap_grow_old w os hk⟩
theorem only_setCell (w : World) (a : Addr) (v : Value) : Only (fun k => k = a.block) w (w.setCell a v) := ⟨rfl, rfl, rfl, by simp [World.setCell], fun k _ hn => Below.heap_setCell _ _ _ _ hn⟩
theorem only_grownBy {w w' : World} {row : Option Nat} (h : w.grownBy w' row) : Only (fun k => some k = row) w w' := ⟨h.os, h.tape, h.output, h.size, fun k hk hn => h.block k hk hn⟩
theorem only_putRow {α : Type} [Inhabited α] (enc : α → Value) (w : World) (n g off : Nat) (d : Array α) : Only (fun k => k = g) w (putRow enc (Sort.ahead w n) g off d) := by
  refine ⟨rfl, rfl, rfl, by simp, fun k _ hn => ?_⟩
  simp [putRow, mapBlock, Array.getElem?_modify, Ne.symm hn]

section
variable {α : Type} [Inhabited α]

/-- Block g is a row of 'cap' cells, none frozen, whose first cells hold d. -/
def RowAt (enc : α → Value) (t : TypeId) (w : World) (g cap : Nat) (d : Array α) : Prop :=
  ∃ cur, w.heap[g]? = some (.cells cur t (0, 0)) ∧ cur.size = cap ∧ d.size ≤ cap ∧ cap ≤ maxLen ∧ cur.toList.take d.size = d.toList.map enc

variable {enc : α → Value} {t : TypeId} {w w' : World} {g cap : Nat} {d : Array α}

theorem RowAt.lt (h : RowAt enc t w g cap d) : g < w.heap.size := by
  obtain ⟨_, hb, _⟩ := h; exact (Array.getElem?_eq_some_iff.1 hb).1
theorem RowAt.le (h : RowAt enc t w g cap d) : d.size ≤ cap := by obtain ⟨_, _, _, h, _⟩ := h; exact h
theorem RowAt.owns (h : RowAt enc t w g cap d) {base : Nat} (hb : base ≤ g) : w.ownsRow base t 1 (.slice (some ⟨g, 0, none⟩) d.size cap) d.size (d.toList.map enc) := by
  obtain ⟨cur, h1, h2, h3, h4, h5⟩ := h
  exact ⟨by simp, .inr ⟨g, cap, cur, rfl, hb, h1, h3, h4, by omega, by simpa using h5⟩⟩
theorem RowAt.of_owns {base n : Nat} {xs : List Value} (h : w.ownsRow base t 1 (.slice (some ⟨g, 0, none⟩) n cap) n xs) (hn : n = d.size) (hx : xs = d.toList.map enc) : RowAt enc t w g cap d ∧ base ≤ g := by
  subst hn; subst hx
  rcases h.2 with ⟨h, _⟩ | ⟨g', cap', cur, hv, hb, h1, h3, h4, h5, h6⟩
  · cases h
  · cases hv
    exact ⟨⟨cur, h1, by omega, h3, h4, by simpa using h6⟩, hb⟩
theorem RowAt.block (h : RowAt enc t w g cap d) (hw : w'.heap[g]? = w.heap[g]?) : RowAt enc t w' g cap d := by
  obtain ⟨cur, h1, r⟩ := h; exact ⟨cur, hw.trans h1, r⟩
theorem RowAt.only {S : Nat → Prop} (h : RowAt enc t w g cap d) (ho : Only S w w') (hn : ¬ S g) : RowAt enc t w' g cap d := h.block (ho.block g h.lt hn)
theorem RowAt.cells (h : RowAt enc t w g cap d) (j : Nat) (hj : j < d.size) : w.cell? ⟨g, j, none⟩ = some (enc d[j]!) ∧ w.frozen? ⟨g, j, none⟩ = false := by
  obtain ⟨cur, h1, h2, h3, h4, h5⟩ := h
  refine ⟨?_, by simp [World.frozen?, h1]⟩
  have e : (cur.toList.take d.size)[j]? = (d.toList.map enc)[j]? := by rw [h5]
  simp [World.cell?, h1]
  simp [hj] at e
  rw [e]
  simp [hj]
theorem RowAt.holds (h : RowAt enc t w g cap d) : Holds enc w g 0 d := fun j hj => by rw [Nat.zero_add]; exact h.cells j hj
theorem RowAt.put (h : RowAt enc t w g cap d) (n : Nat) (d' : Array α) (hs : d'.size = d.size) : RowAt enc t (putRow enc (Sort.ahead w n) g 0 d') g cap d' := by
  obtain ⟨cur, h1, h2, h3, h4, h5⟩ := h
  refine ⟨putCells enc 0 d' cur, ?_, by simp [putCells, h2], by omega, h4, ?_⟩
  · simp [putRow, mapBlock, Array.getElem?_modify, h1, onCells]
  · apply List.ext_getElem?
    intro j
    by_cases hj : j < d'.size
    · have hc : j < cur.size := by omega
      simp [putCells, hj, hc]
    · rw [List.getElem?_take, if_neg hj]
      simp [Array.getElem?_eq_none (show d'.size ≤ j by omega)]
end
end Go.Proofs.Ybulkajny
