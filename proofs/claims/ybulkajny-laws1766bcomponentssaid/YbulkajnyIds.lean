import Derived.Test.YbulkajnyArg
import Derived.Test.YbulkajnyHeapPush
import Derived.Maps.OwnSet
import Derived.Maps.Own
import Derived.StringKeys
namespace Go.Proofs.Ybulkajny
open Go.RowKit Go.Sort Go.Maps

theorem law9 : Keyed Yba.prog 9 := string_keyed Yba.underlying9
theorem zero21 (w : World) : (zeroValue 21).run Yba.prog w = .ok (.int .i32 0) w := by kernel_rfl
/-- What a key reads as. -/
def kLit (y : Nat) : Lit := .string (keyS y).data.toList
theorem keyOf_any (y : Nat) : keyOf Yba.prog 9 (.string (keyS y)) = some (kLit y) := by
  refine WideMaps.keyOf_string_mk Yba.underlying9 ?_
  unfold keyS maxLen
  split
  · decide
  · split
    · decide
    · split <;> decide
theorem kLit_mod (x : Nat) : kLit (x % 4) = kLit x ∧ keyS (x % 4) = keyS x := by
  unfold kLit keyS
  simp
theorem kLit_ne {y y' : Nat} (h : y < 4) (h' : y' < 4) (hne : y ≠ y') : kLit y ≠ kLit y' := by
  have e : y = 0 ∨ y = 1 ∨ y = 2 ∨ y = 3 := by omega
  have e' : y' = 0 ∨ y' = 1 ∨ y' = 2 ∨ y' = 3 := by omega
  rcases e with rfl | rfl | rfl | rfl <;> rcases e' with rfl | rfl | rfl | rfl <;> first | exact absurd rfl hne | (unfold kLit keyS; simp)

/-- The map of ids: key number i is ks[i]. -/
structure Ids (w : World) (mb : Nat) (ks : List Nat) (D : DataW Unit) : Prop where
  own : w.ownsMap Yba.prog 9 (plainElem (H := Unit) Yba.prog 21) mb ks.length D
  size : Maps.size D = ks.length
  has : ∀ y, y < 4 → Maps.has D (kLit y) = decide (y ∈ ks)
  at_ : ∀ (i y : Nat), ks[i]? = some y → D.atKey (kLit y) (.lit (.int .i32 0)) = .lit (.int .i32 (i : Int))
  nd : ks.Nodup
  lt : ∀ y, y ∈ ks → y < 4
theorem Ids.block {w w' : World} {mb : Nat} {ks : List Nat} {D : DataW Unit} (h : Ids w mb ks D) (he : w'.heap[mb]? = w.heap[mb]?) : Ids w' mb ks D := by
  obtain ⟨es, clock, hb, r⟩ := h.own
  exact ⟨⟨es, clock, he.trans hb, r⟩, h.size, h.has, h.at_, h.nd, h.lt⟩
theorem Ids.le {w : World} {mb : Nat} {ks : List Nat} {D : DataW Unit} (h : Ids w mb ks D) : ks.length ≤ 4 := by
  have : ∀ (N : Nat) (l : List Nat), l.Nodup → (∀ x, x ∈ l → x < N) → l.length ≤ N := by
    intro N
    induction N with
    | zero =>
      intro l _ h
      cases l with
      | nil => exact Nat.le_refl _
      | cons x xs => exact absurd (h x List.mem_cons_self) (Nat.not_lt_zero _)
    | succ N ih =>
      intro l hd h
      by_cases hN : N ∈ l
      · have h1 := ih (l.erase N) (hd.erase N) (fun x hx => by
          have h2 := (hd.mem_erase_iff).1 hx
          have := h x h2.2
          have := h2.1
          omega)
        rw [List.length_erase_of_mem hN] at h1
        omega
      · have h1 := ih l hd (fun x hx => by
          have := h x hx
          have : x ≠ N := fun e => hN (e ▸ hx)
          omega)
        omega
  exact this 4 ks h.nd h.lt
theorem isKey (y : Nat) : WideAt.IsKeyLit (kLit y) := trivial

theorem Ids.put {w w' : World} {mb y : Nat} {ks : List Nat} {D : DataW Unit} (h : Ids w mb ks D) (hy : y < 4) (hn : y ∉ ks) (hown : w'.ownsMap Yba.prog 9 (plainElem (H := Unit) Yba.prog 21) mb (ks.length + 1) (D.put (kLit y) (.lit (.int .i32 (ks.length : Int))))) : Ids w' mb (ks ++ [y]) (D.put (kLit y) (.lit (.int .i32 (ks.length : Int)))) := by
  have hhas : Maps.has D (kLit y) = false := by rw [h.has y hy]; simp [hn]
  have ht : Maps.Tidy D := h.own.tidy law9
  refine ⟨by rw [List.length_append]; exact hown, ?_, fun y' hy' => ?_, fun i y' hi => ?_, ?_, fun y' hy' => ?_⟩
  · rw [Maps.size_put ht, hhas, h.size]; simp
  · by_cases e : y' = y
    · subst e; rw [Maps.has_put_same ht.isMap (isKey _)]; simp
    · rw [Maps.has_put_other (kLit_ne hy' hy e), h.has y' hy']; simp [e]
  · by_cases e : i < ks.length
    · rw [List.getElem?_append_left e] at hi
      have hm := List.mem_of_getElem? hi
      have hne : y' ≠ y := fun e' => hn (e' ▸ hm)
      rw [Maps.atKey_put_other (kLit_ne (h.lt y' hm) hy hne)]
      exact h.at_ i y' hi
    · rw [List.getElem?_append_right (by omega)] at hi
      have h0 : i - ks.length = 0 := by
        have := (List.getElem?_eq_some_iff.1 hi).1
        simp at this
        omega
      rw [h0] at hi
      simp at hi
      subst hi
      rw [Maps.atKey_put_same ht.isMap (isKey _)]
      have : i = ks.length := by omega
      rw [this]
  · rw [List.nodup_append]
    exact ⟨h.nd, by simp, fun a ha b hb => by
      have : b = y := by simpa using hb
      subst this
      exact fun e => hn (e ▸ ha)⟩
  · rcases List.mem_append.1 hy' with hm | hm
    · exact h.lt y' hm
    · have : y' = y := by simpa using hm
      omega
end Go.Proofs.Ybulkajny
