import Derived.Test.YbulkajnyConfineW
import Derived.Test.YbulkajnyOpen
import Derived.Test.YbulkajnyNext
import Derived.Test.YbulkajnyTjLaw
namespace Go.Proofs.Ybulkajny
open Go.RowKit Go.Sort

/-- A piece of code, by its path: 0, 1 the halves of a sequence, 2 a loop's body, 3 a block's, 4, 5 a condition's arms. -/
def nav : List Nat → Code → Code
  | 0 :: p, .seq a _ => nav p a
  | 1 :: p, .seq _ b => nav p b
  | 2 :: p, .loop c => nav p c
  | 3 :: p, .block _ c => nav p c
  | 4 :: p, .cond _ a _ => nav p a
  | 5 :: p, .cond _ _ b => nav p b
  | _, c => c

section
variable {w0 w w' : World} {R : Nat → Row} {E : Option (Nat × Obj)} {n K N : Nat} {b : Nat → Nat}

theorem Fam.nilRow (h : Fam w0 w R E) (i : Nat) (t : TypeId) (sz : Nat) : Fam w0 w (put R i ⟨none, 0, t, sz, 0, []⟩) E :=
  h.turn i _ (Only.refl _ w) ⟨by simp, .inl ⟨rfl, rfl⟩⟩ (fun c hc => by cases hc)

/-- The blocks of the walk's boxes. -/
def bx (b : Nat → Nat) (z : Nat) : Nat → Nat := fun i => if i = 11 then z else if i = 12 then z + 1 else if i = 13 then z + 2 else if i = 14 then z + 3 else b i

def four (w : World) : World := (((w.alloc (.cells #[.int .i32 0] 21)).alloc (.cells #[.slice none 0 0] 78)).alloc (.cells #[.slice none 0 0] 22)).alloc (.cells #[.slice none 0 0] 22)

theorem Tj.start (h : Fam w0 w R E) (h8 : R 8 = ⟨some (b 8), N, 21, 1, N, tab N (fun _ => i32 0)⟩) (h9 : R 9 = ⟨some (b 9), N, 21, 1, N, tab N (fun _ => i32 0)⟩) (h10 : R 10 = ⟨some (b 10), N, 4, 1, N, tab N (fun _ => .bool false)⟩) :
    Tj w0 (four w) R E N (bx b w.heap.size) init := by
  have k1 := h.make (i := 11) #[.int .i32 0] 21 1 1 rfl (by unfold maxLen; omega)
  have k2 := k1.make (i := 12) #[.slice none 0 0] 78 1 1 rfl (by unfold maxLen; omega)
  have k3 := k2.make (i := 13) #[.slice none 0 0] 22 1 1 rfl (by unfold maxLen; omega)
  have k4 := k3.make (i := 14) #[.slice none 0 0] 22 1 1 rfl (by unfold maxLen; omega)
  have k5 := ((k4.nilRow 15 76 2).nilRow 16 21 1).nilRow 17 21 1
  refine ⟨_, k5, ⟨?_, ?_, ?_, ?_, ?_, ?_, ?_, ⟨none, 0, ?_⟩, ⟨none, 0, ?_⟩, ⟨none, 0, ?_⟩⟩, ?_⟩
  · simp only [put, reduceIte, Nat.reduceEqDiff, h8, bx]; rfl
  · simp only [put, reduceIte, Nat.reduceEqDiff, h9, bx]; rfl
  · simp only [put, reduceIte, Nat.reduceEqDiff, h10, bx]; rfl
  · simp only [put, reduceIte, Nat.reduceEqDiff, bx]; rfl
  · simp only [put, reduceIte, Nat.reduceEqDiff, bx]; simp [Row.val]
  · simp only [put, reduceIte, Nat.reduceEqDiff, bx]; simp [Row.val]
  · simp only [put, reduceIte, Nat.reduceEqDiff, bx]; simp [Row.val]
  · simp only [put, reduceIte, Nat.reduceEqDiff]; rfl
  · simp only [put, reduceIte, Nat.reduceEqDiff]; rfl
  · simp only [put, reduceIte, Nat.reduceEqDiff]; rfl
  · intro i hi
    rw [put_ne (by omega), put_ne (by omega), put_ne (by omega), put_ne (by omega), put_ne (by omega), put_ne (by omega), put_ne (by omega)]

/-- The components found: row 31, whose cells lead to rows f0, f0 + 1 .. -/
structure Fd (R : Nat → Row) (f0 : Nat) (found : List (List Nat)) (v : Value) : Prop where
  row : ∃ p q, R 31 = ⟨p, q, 22, 1, found.length, tab found.length (fun j => (R (f0 + j)).val)⟩ ∧ v = .slice (p.map fun b => ⟨b, 0, none⟩) found.length q
  comp : ∀ j l, found.reverse[j]? = some l → ∃ p q, R (f0 + j) = ⟨p, q, 21, 1, l.length, l.map i32⟩

/-- The rows that the walk's findings turn. -/
def Fset (f0 i : Nat) : Prop := i = 30 ∨ i = 31 ∨ f0 ≤ i

/-- The surroundings of a round. -/
structure Env (R : Nat → Row) (n K G : Nat) (b : Nat → Nat) (succ : Nat → List Nat) (B NB : Nat) : Prop where
  gs : ∃ gx st, Gs R n K G b gx st
  nodes : Nodes R n K b succ
  box : R 21 = ⟨some B, 1, 44, 1, 1, [.pointer (some ⟨G, 0, none⟩)]⟩
  nb : R 22 = ⟨some NB, 1, 21, 1, 1, [i32 n]⟩
end
end Go.Proofs.Ybulkajny
