import Derived.Test.YbulkajnyId
import Derived.Test.YbulkajnyBuildS
namespace Go.Proofs.Ybulkajny
open Go.RowKit Go.Sort

section
variable {w0 w w' : World} {R : Nat → Row} {E : Option (Nat × Obj)}
/-- A block that lies in memory becomes row i. -/
theorem Fam.adopt (h : Fam w0 w R E) (i b n sz : Nat) (cs : Array Value) (t : TypeId) (hb : w.heap[b]? = some (.cells cs t (0, 0))) (hs : cs.size = n * sz) (hn : n ≤ maxLen) (h0 : w0.heap.size ≤ b) (hR : ∀ j, j ≠ i → (R j).blk ≠ some b) (hE : ∀ b' o, E = some (b', o) → b' ≠ b) :
    Fam w0 w (put R i ⟨some b, n, t, sz, n, cs.toList⟩) E := by
  refine ⟨fun j => ?_, fun j k c hjk hj => ?_, fun c o he => ?_, h.below⟩
  · by_cases e : j = i
    · subst e
      rw [put_eq]
      exact Row.ok.of_shape (b := b) (cur := cs) rfl hb h0 (Nat.le_refl _) hn hs (List.take_of_length_le (by simp [hs]))
    · rw [put_ne e]; exact h.ok j
  · by_cases e : j = i
    · subst e
      rw [put_eq] at hj
      cases hj
      rw [put_ne (Ne.symm hjk)]
      exact hR k (Ne.symm hjk)
    · rw [put_ne e] at hj
      by_cases e' : k = i
      · subst e'
        rw [put_eq]
        intro hk
        cases hk
        exact hR j e hj
      · rw [put_ne e']; exact h.inj j k c hjk hj
  · obtain ⟨h1, h2, h3⟩ := h.ext c o he
    refine ⟨h1, h2, fun j => ?_⟩
    by_cases e : j = i
    · subst e; rw [put_eq]; intro hf; injection hf with hf; exact hE c o he hf.symm
    · rw [put_ne e]; exact h3 j

/-- Behind the graph's making: its box at G, and four new rows. -/
theorem np_start (h : Fam w0 w R none) (ho : Only (fun _ => False) w w') {n ra wa ba ma G : Nat} {cs : Array Value} (hn : n ≤ 64)
    (hr : w'.heap[ra]? = some (.cells (madeCells #[.slice none 0 0] n) 22 (0, 0))) (hw : w'.heap[wa]? = some (.cells (madeCells #[.slice none 0 0] n) 22 (0, 0))) (hb : w'.heap[ba]? = some (.cells (madeCells #[.int .i32 0] n) 21 (0, 0))) (hm : w'.heap[ma]? = some (.cells (madeCells #[.int .i32 0] n) 21 (0, 0)))
    (hG : w'.heap[G]? = some (.cells cs 49 (0, 0))) (hcs : cs.size = 15) (l1 : w.heap.size ≤ ra) (l2 : w.heap.size ≤ wa) (l3 : w.heap.size ≤ ba) (l4 : w.heap.size ≤ ma) (l5 : w.heap.size ≤ G) (d1 : ra ≠ wa) (d2 : ba ≠ ma) :
    ∃ R', Fam w0 w' R' none ∧ R' 0 = ⟨some G, 1, 49, 15, 1, cs.toList⟩ ∧ R' 1 = ⟨some ra, n, 22, 1, n, tab n (fun _ => .slice none 0 0)⟩ ∧ R' 2 = ⟨some wa, n, 22, 1, n, tab n (fun _ => .slice none 0 0)⟩ ∧ R' 47 = ⟨some ba, n, 21, 1, n, tab n (fun _ => i32 0)⟩ ∧ R' 7 = ⟨some ma, n, 21, 1, n, tab n (fun _ => i32 0)⟩ ∧ ∀ i, i ≠ 0 → i ≠ 1 → i ≠ 2 → i ≠ 47 → i ≠ 7 → R' i = R i := by
  have hlt : ∀ j b, (R j).blk = some b → b < w.heap.size := fun j b hj => h.lt hj
  have h1 := h.only0 ho
  have nr : ∀ x, w.heap.size ≤ x → ∀ j, (R j).blk ≠ some x := fun x hx j hj => by have := hlt j x hj; omega
  have nG : ∀ x, w'.heap[x]? ≠ some (.cells cs 49 (0, 0)) → x ≠ G := fun x hx e => hx (e ▸ hG)
  have gr : ra ≠ G := nG ra (by rw [hr]; intro e; cases e)
  have gw : wa ≠ G := nG wa (by rw [hw]; intro e; cases e)
  have gb : ba ≠ G := nG ba (by rw [hb]; intro e; cases e)
  have gm : ma ≠ G := nG ma (by rw [hm]; intro e; cases e)
  have rb : ra ≠ ba := fun e => by rw [e, hb] at hr; injection hr with hx; injection hx with _ hy; exact absurd hy (by decide)
  have rm : ra ≠ ma := fun e => by rw [e, hm] at hr; injection hr with hx; injection hx with _ hy; exact absurd hy (by decide)
  have wb : wa ≠ ba := fun e => by rw [e, hb] at hw; injection hw with hx; injection hx with _ hy; exact absurd hy (by decide)
  have wm : wa ≠ ma := fun e => by rw [e, hm] at hw; injection hw with hx; injection hx with _ hy; exact absurd hy (by decide)
  have base := h.size
  have hmx : n ≤ maxLen := by unfold maxLen; omega
  have a1 := h1.adopt 0 G 1 15 cs 49 hG (by simp [hcs]) (by unfold maxLen; omega) (by omega) (fun j _ => nr G l5 j) (fun _ _ he => by cases he)
  have a2 := a1.adopt 1 ra n 1 _ 22 hr (by simp [madeCells]) hmx (by omega) (fun j hj => by
    by_cases e : j = 0
    · subst e; rw [put_eq]; intro hf; cases hf; exact gr rfl
    · rw [put_ne e]; exact nr ra l1 j) (fun _ _ he => by cases he)
  have a3 := a2.adopt 2 wa n 1 _ 22 hw (by simp [madeCells]) hmx (by omega) (fun j hj => by
    by_cases e1 : j = 1
    · subst e1; rw [put_eq]; intro hf; cases hf; exact d1 rfl
    · rw [put_ne e1]
      by_cases e : j = 0
      · subst e; rw [put_eq]; intro hf; cases hf; exact gw rfl
      · rw [put_ne e]; exact nr wa l2 j) (fun _ _ he => by cases he)
  have a4 := a3.adopt 47 ba n 1 _ 21 hb (by simp [madeCells]) hmx (by omega) (fun j hj => by
    by_cases e2 : j = 2
    · subst e2; rw [put_eq]; intro hf; cases hf; exact wb rfl
    · rw [put_ne e2]
      by_cases e1 : j = 1
      · subst e1; rw [put_eq]; intro hf; cases hf; exact rb rfl
      · rw [put_ne e1]
        by_cases e : j = 0
        · subst e; rw [put_eq]; intro hf; cases hf; exact gb rfl
        · rw [put_ne e]; exact nr ba l3 j) (fun _ _ he => by cases he)
  have a5 := a4.adopt 7 ma n 1 _ 21 hm (by simp [madeCells]) hmx (by omega) (fun j hj => by
    by_cases e3 : j = 47
    · subst e3; rw [put_eq]; intro hf; cases hf; exact d2 rfl
    · rw [put_ne e3]
      by_cases e2 : j = 2
      · subst e2; rw [put_eq]; intro hf; cases hf; exact wm rfl
      · rw [put_ne e2]
        by_cases e1 : j = 1
        · subst e1; rw [put_eq]; intro hf; cases hf; exact rm rfl
        · rw [put_ne e1]
          by_cases e : j = 0
          · subst e; rw [put_eq]; intro hf; cases hf; exact gm rfl
          · rw [put_ne e]; exact nr ma l4 j) (fun _ _ he => by cases he)
  have t1 : ∀ z : Value, (madeCells #[z] n).toList = tab n (fun _ => z) := fun z => by
    rw [made_toList]
    exact tab_congr (fun j _ => by simp [Nat.mod_one])
  refine ⟨_, a5, ?_, ?_, ?_, ?_, ?_, fun i b0 b1 b2 b3 b4 => ?_⟩
  · rw [put_ne (by omega), put_ne (by omega), put_ne (by omega), put_ne (by omega), put_eq]
  · rw [put_ne (by omega), put_ne (by omega), put_ne (by omega), put_eq, t1]
  · rw [put_ne (by omega), put_ne (by omega), put_eq, t1]
  · rw [put_ne (by omega), put_eq, t1]; rfl
  · rw [put_eq, t1]; rfl
  · rw [put_ne b4, put_ne b3, put_ne b2, put_ne b1, put_ne b0]
end
end Go.Proofs.Ybulkajny
