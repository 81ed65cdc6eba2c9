import Derived.Test.YbulkajnyF5a
import Derived.Test.YbulkajnyFw
namespace Go.Proofs.Ybulkajny
open Go.RowKit Go.Sort
set_option linter.unusedVariables false

/-- Four bits as a number. -/
def bv (b : Bool × Bool × Bool × Bool) : Int := (if b.1 then 1 else 0) + (if b.2.1 then 2 else 0) + (if b.2.2.1 then 4 else 0) + (if b.2.2.2 then 8 else 0)
def bq (l : List Nat) : Bool × Bool × Bool × Bool := (bitsOf l 0, bitsOf l 1, bitsOf l 2, bitsOf l 3)
theorem bv_or0 : ∀ a b c d : Bool, bits .or .u8 (bv (a, b, c, d)) 1 = bv (true, b, c, d) := by decide
theorem bv_or1 : ∀ a b c d : Bool, bits .or .u8 (bv (a, b, c, d)) 2 = bv (a, true, c, d) := by decide
theorem bv_or2 : ∀ a b c d : Bool, bits .or .u8 (bv (a, b, c, d)) 4 = bv (a, b, true, d) := by decide
theorem bv_or3 : ∀ a b c d : Bool, bits .or .u8 (bv (a, b, c, d)) 8 = bv (a, b, c, true) := by decide
theorem bv_and : ∀ a b c d a' b' c' d' : Bool, decide (bits .and .u8 (bv (a, b, c, d)) (bv (a', b', c', d')) ≠ 0) = ((a && a') || (b && b') || (c && c') || (d && d')) := by decide
theorem bitsOf_snoc (l : List Nat) (x b : Nat) : bitsOf (l ++ [x]) b = (bitsOf l b || x % 4 == b) := by simp [bitsOf]
theorem mval_bv (l : List Nat) : mval l = bv (bq l) := by
  have : ∀ (l m : List Nat), l.foldl mstep (bv (bq m)) = bv (bq (m ++ l)) := by
    intro l
    induction l with
    | nil => intro m; simp
    | cons x l ih =>
      intro m
      have e : mstep (bv (bq m)) x = bv (bq (m ++ [x])) := by
        have hx : x % 4 = 0 ∨ x % 4 = 1 ∨ x % 4 = 2 ∨ x % 4 = 3 := by omega
        unfold mstep bq
        rcases hx with h | h | h | h
        · simp only [bitsOf_snoc, h]
          rw [if_pos trivial, bv_or0]
          simp
        · simp only [bitsOf_snoc, h]
          rw [if_neg (by omega), if_pos trivial, bv_or1]
          simp
        · simp only [bitsOf_snoc, h]
          rw [if_neg (by omega), if_neg (by omega), if_pos trivial, bv_or2]
          simp
        · simp only [bitsOf_snoc, h]
          rw [if_neg (by omega), if_neg (by omega), if_neg (by omega), bv_or3]
          simp
      rw [List.foldl_cons, e, ih (m ++ [x])]
      simp
  have h := this l []
  simp only [List.nil_append] at h
  exact h
theorem share_bits (l m : List Nat) : decide (bits .and .u8 (mval l) (mval m) ≠ 0) = share l m := by
  rw [mval_bv, mval_bv]
  unfold bq
  rw [bv_and, Bool.eq_iff_iff, share_iff]
  simp only [Bool.or_eq_true, Bool.and_eq_true, bitsOf, List.any_eq_true, beq_iff_eq]
  constructor
  · rintro (((⟨⟨x, hx, ex⟩, ⟨y, hy, ey⟩⟩ | ⟨⟨x, hx, ex⟩, ⟨y, hy, ey⟩⟩) | ⟨⟨x, hx, ex⟩, ⟨y, hy, ey⟩⟩) | ⟨⟨x, hx, ex⟩, ⟨y, hy, ey⟩⟩)
    all_goals exact ⟨x, hx, y, hy, ex.trans ey.symm⟩
  · rintro ⟨x, hx, y, hy, e⟩
    have h4 : x % 4 = 0 ∨ x % 4 = 1 ∨ x % 4 = 2 ∨ x % 4 = 3 := by omega
    rcases h4 with h | h | h | h
    · exact .inl (.inl (.inl ⟨⟨x, hx, h⟩, ⟨y, hy, e.symm.trans h⟩⟩))
    · exact .inl (.inl (.inr ⟨⟨x, hx, h⟩, ⟨y, hy, e.symm.trans h⟩⟩))
    · exact .inl (.inr ⟨⟨x, hx, h⟩, ⟨y, hy, e.symm.trans h⟩⟩)
    · exact .inr ⟨⟨x, hx, h⟩, ⟨y, hy, e.symm.trans h⟩⟩
end Go.Proofs.Ybulkajny
