import Derived.Test.YbulkajnyMake
namespace Go.Proofs.Ybulkajny
open Go.RowKit Go.Sort

/-- The cells beside the key. -/
def zc (t : TypeId) (d : Nat) : Value := if t = 65 then .pointer none else if d = 1 then .string ⟨#[]⟩ else .bool false
/-- A row of keys: the first i elements hold the keys of l. -/
def Filled (R : Nat → Row) (r : Nat) (t : TypeId) (sz g : Nat) (l : List Nat) (i : Nat) : Prop :=
  ∃ f, R r = ⟨some g, l.length, t, sz, l.length, tab (l.length * sz) f⟩ ∧ (∀ (i' x : Nat), i' < i → l[i']? = some x → f (i' * sz) = .string (keyS x)) ∧ ∀ (i' d : Nat), 0 < d → d < sz → f (i' * sz + d) = zc t d

section
variable {w0 w w' : World} {R : Nat → Row} {E : Option (Nat × Obj)} {r g : Nat} {l : List Nat} {i x : Nat}

theorem Filled.congr {R' : Nat → Row} {t : TypeId} {sz : Nat} (h : Filled R r t sz g l i) (he : R' r = R r) : Filled R' r t sz g l i := by
  obtain ⟨f, h1, h2⟩ := h
  exact ⟨f, he.trans h1, h2⟩
theorem Filled.blk {t : TypeId} {sz : Nat} (h : Filled R r t sz g l i) : (R r).blk = some g := by
  obtain ⟨f, h1, _⟩ := h; rw [h1]
theorem Filled.val {t : TypeId} {sz : Nat} (h : Filled R r t sz g l i) : (R r).val = .slice (some ⟨g, 0, none⟩) l.length l.length := by
  obtain ⟨f, h1, _⟩ := h; rw [h1]; rfl
theorem Filled.cell {t : TypeId} {sz k : Nat} (h : Filled R r t sz g l i) (hF : Fam w0 w R E) (hk : k < l.length * sz) : ∃ v, w.cell? ⟨g, k, none⟩ = some v := by
  obtain ⟨f, h1, _⟩ := h
  exact ⟨f k, hF.cell (i := r) (by rw [h1]) (by rw [h1]; exact tab_get hk)⟩
theorem Filled.free {t : TypeId} {sz k : Nat} (h : Filled R r t sz g l i) (hF : Fam w0 w R E) : w.frozen? ⟨g, k, none⟩ = false := hF.free h.blk k
theorem Filled.key {t : TypeId} {sz : Nat} (h : Filled R r t sz g l i) (hF : Fam w0 w R E) (hi : x < i) {y : Nat} (hy : l[x]? = some y) (hsz : 0 < sz) : w.cell? ⟨g, x * sz, none⟩ = some (.string (keyS y)) := by
  obtain ⟨f, h1, h2, _⟩ := h
  have hx := (List.getElem?_eq_some_iff.1 hy).1
  have hlt : x * sz < l.length * sz := Nat.mul_lt_mul_of_pos_right hx hsz
  rw [← h2 x y hi hy]
  exact hF.cell (i := r) (by rw [h1]) (by rw [h1]; exact tab_get hlt)

/-- One cell of the row is set, beside what is filled or at its next place. -/
theorem Filled.set {t : TypeId} {sz k : Nat} {v : Value} (h : Filled R r t sz g l i) (hF : Fam w0 w R E) (hk : ∀ i', i' < i → i' * sz ≠ k) (hz : ∀ (i' d : Nat), 0 < d → d < sz → i' * sz + d = k → v = zc t d) :
    ∃ R', Fam w0 (w.setCell ⟨g, k, none⟩ v) R' E ∧ Filled R' r t sz g l i ∧ ∀ j, j ≠ r → R' j = R j := by
  obtain ⟨f, h1, h2, h3⟩ := h
  have hs := hF.set (i := r) (b := g) (j := k) (v := v) (by rw [h1])
  refine ⟨_, hs, ⟨fun j => if j = k then v else f j, ?_, fun i' x hi hx => ?_, fun i' d h0 hd => ?_⟩, fun j hj => put_ne hj⟩
  · rw [put_eq, h1]
    simp only [Row.mk.injEq, true_and]
    exact tab_set (by simp) (fun j hj => by simp [hj])
  · show (if i' * sz = k then v else f (i' * sz)) = _
    rw [if_neg (hk i' hi)]; exact h2 i' x hi hx
  · show (if i' * sz + d = k then v else f (i' * sz + d)) = _
    by_cases e : i' * sz + d = k
    · rw [if_pos e]; exact hz i' d h0 hd e
    · rw [if_neg e]; exact h3 i' d h0 hd
theorem Filled.put {t : TypeId} {sz : Nat} (h : Filled R r t sz g l i) (hF : Fam w0 w R E) (hx : l[i]? = some x) (hsz : 0 < sz) :
    ∃ R', Fam w0 (w.setCell ⟨g, i * sz, none⟩ (.string (keyS x))) R' E ∧ Filled R' r t sz g l (i + 1) ∧ ∀ j, j ≠ r → R' j = R j := by
  obtain ⟨f, h1, h2, h3⟩ := h
  have hs := hF.set (i := r) (b := g) (j := i * sz) (v := .string (keyS x)) (by rw [h1])
  refine ⟨_, hs, ⟨fun j => if j = i * sz then .string (keyS x) else f j, ?_, fun i' y hi hy => ?_, fun i' d h0 hd => ?_⟩, fun j hj => put_ne hj⟩
  · rw [put_eq, h1]
    simp only [Row.mk.injEq, true_and]
    exact tab_set (by simp) (fun j hj => by simp [hj])
  · by_cases e : i' = i
    · subst e
      show (if i' * sz = i' * sz then _ else f (i' * sz)) = _
      rw [if_pos rfl]; rw [hx] at hy; cases hy; rfl
    · have hne : i' * sz ≠ i * sz := fun he => e (Nat.eq_of_mul_eq_mul_right hsz he)
      show (if i' * sz = i * sz then _ else f (i' * sz)) = _
      rw [if_neg hne]; exact h2 i' y (by omega) hy
  · have hne : i' * sz + d ≠ i * sz := fun he => by
      have e1 : (i' * sz + d) % sz = d := by rw [Nat.mul_comm, Nat.mul_add_mod, Nat.mod_eq_of_lt hd]
      have e2 : (i * sz) % sz = 0 := Nat.mul_mod_left i sz
      rw [he, e2] at e1
      omega
    show (if i' * sz + d = i * sz then _ else f (i' * sz + d)) = _
    rw [if_neg hne]; exact h3 i' d h0 hd
theorem Filled.put2 (h : Filled R r 65 2 g l i) (hF : Fam w0 w R E) (hx : l[i]? = some x) :
    ∃ R', Fam w0 ((w.setCell ⟨g, i * 2, none⟩ (.string (keyS x))).setCell ⟨g, i * 2 + 1, none⟩ (.pointer none)) R' E ∧ Filled R' r 65 2 g l (i + 1) ∧ ∀ j, j ≠ r → R' j = R j := by
  obtain ⟨R1, f1, k1, e1⟩ := h.put hF hx (by omega)
  obtain ⟨R2, f2, k2, e2⟩ := k1.set (k := i * 2 + 1) (v := .pointer none) f1 (fun i' hi => by omega) (fun i' d h0 hd he => rfl)
  exact ⟨R2, f2, k2, fun j hj => (e2 j hj).trans (e1 j hj)⟩
theorem Filled.put3 (h : Filled R r 68 3 g l i) (hF : Fam w0 w R E) (hx : l[i]? = some x) :
    ∃ R', Fam w0 (((w.setCell ⟨g, i * 3, none⟩ (.string (keyS x))).setCell ⟨g, i * 3 + 1, none⟩ (.string ⟨#[]⟩)).setCell ⟨g, i * 3 + 2, none⟩ (.bool false)) R' E ∧ Filled R' r 68 3 g l (i + 1) ∧ ∀ j, j ≠ r → R' j = R j := by
  obtain ⟨R1, f1, k1, e1⟩ := h.put hF hx (by omega)
  obtain ⟨R2, f2, k2, e2⟩ := k1.set (k := i * 3 + 1) (v := .string ⟨#[]⟩) f1 (fun i' hi => by omega) (fun i' d h0 hd he => (by obtain rfl : d = 1 := (by omega); rfl))
  obtain ⟨R3, f3, k3, e3⟩ := k2.set (k := i * 3 + 2) (v := .bool false) f2 (fun i' hi => by omega) (fun i' d h0 hd he => (by obtain rfl : d = 2 := (by omega); rfl))
  exact ⟨R3, f3, k3, fun j hj => (e3 j hj).trans ((e2 j hj).trans (e1 j hj))⟩
theorem Filled.new (hF : Fam w0 w R E) (r : Nat) (t : TypeId) (sz : Nat) (z : Array Value) (l : List Nat) (hl : l.length ≤ 1000000) (hz : ∀ (i' d : Nat), 0 < d → d < sz → z[(i' * sz + d) % z.size]! = zc t d) :
    ∃ R', Fam w0 (w.alloc (.cells (madeCells z (l.length * sz)) t)) R' E ∧ Filled R' r t sz w.heap.size l 0 ∧ ∀ j, j ≠ r → R' j = R j := by
  have hm := hF.make (i := r) (madeCells z (l.length * sz)) t sz l.length (by simp [madeCells]) (by unfold maxLen; omega)
  refine ⟨_, hm, ⟨fun i => z[i % z.size]!, ?_, fun i' x hi => absurd hi (Nat.not_lt_zero _), fun i' d h0 hd => hz i' d h0 hd⟩, fun j hj => put_ne hj⟩
  rw [put_eq, made_toList]

theorem zc65 (i' d : Nat) (h0 : 0 < d) (hd : d < 2) : (#[.string ⟨#[]⟩, .pointer none] : Array Value)[(i' * 2 + d) % (#[.string ⟨#[]⟩, .pointer none] : Array Value).size]! = zc 65 d := by
  obtain rfl : d = 1 := by omega
  have e : (i' * 2 + 1) % 2 = 1 := by omega
  show (#[.string ⟨#[]⟩, .pointer none] : Array Value)[(i' * 2 + 1) % 2]! = _
  rw [e]; rfl
theorem zc68 (i' d : Nat) (h0 : 0 < d) (hd : d < 3) : (#[.string ⟨#[]⟩, .string ⟨#[]⟩, .bool false] : Array Value)[(i' * 3 + d) % (#[.string ⟨#[]⟩, .string ⟨#[]⟩, .bool false] : Array Value).size]! = zc 68 d := by
  have e : (i' * 3 + d) % 3 = d := by omega
  show (#[.string ⟨#[]⟩, .string ⟨#[]⟩, .bool false] : Array Value)[(i' * 3 + d) % 3]! = _
  rw [e]
  have : d = 1 ∨ d = 2 := by omega
  rcases this with rfl | rfl <;> rfl

/-- The set: the transactions that are not out. -/
def setTo (out : Nat → Bool) (j : Nat) : List Nat := (List.range j).filter (fun i => !out i)
theorem setTo_in {out : Nat → Bool} {j : Nat} (h : out j = false) : setTo out (j + 1) = setTo out j ++ [j] := by simp [setTo, List.range_succ, h]
theorem setTo_out {out : Nat → Bool} {j : Nat} (h : out j = true) : setTo out (j + 1) = setTo out j := by simp [setTo, List.range_succ, h]
theorem setTo_len (out : Nat → Bool) (j : Nat) : (setTo out j).length ≤ j := Nat.le_trans (List.length_filter_le _ _) (by simp)

/-- The block, its first j transactions made. -/
structure Bs (R : Nat → Row) (n bB bI : Nat) (rv wv : Nat → List Nat) (out : Nat → Bool) (j : Nat) : Prop where
  blk : ∃ f, R 19 = ⟨some bB, n, 70, 4, n, tab (n * 4) f⟩ ∧ ∀ i, i < j → f (i * 4 + 1) = (R (400 + 2 * i)).val ∧ f (i * 4 + 2) = (R (401 + 2 * i)).val ∧ f (i * 4) = .string ⟨#[]⟩ ∧ f (i * 4 + 3) = .slice none 0 0
  rs : ∀ i, i < j → ∃ g, Filled R (400 + 2 * i) 65 2 g (rv i) (rv i).length
  ws : ∀ i, i < j → ∃ g, Filled R (401 + 2 * i) 68 3 g (wv i) (wv i).length
  ins : R 18 = ⟨some bI, n, 4, 1, n, tab n (fun i => .bool (decide (i < j) && !out i))⟩

theorem Bs.congr {R' : Nat → Row} {n bB bI : Nat} {rv wv : Nat → List Nat} {out : Nat → Bool} {j : Nat} (h : Bs R n bB bI rv wv out j) (he : ∀ i, (i = 18 ∨ i = 19 ∨ (400 ≤ i ∧ i < 400 + 2 * j)) → R' i = R i) : Bs R' n bB bI rv wv out j := by
  obtain ⟨f, h1, h2⟩ := h.blk
  refine ⟨⟨f, (he 19 (by omega)).trans h1, fun i hi => ?_⟩, fun i hi => ?_, fun i hi => ?_, (he 18 (by omega)).trans h.ins⟩
  · rw [he (400 + 2 * i) (by omega), he (401 + 2 * i) (by omega)]; exact h2 i hi
  · obtain ⟨g, hg⟩ := h.rs i hi
    exact ⟨g, hg.congr (he _ (by omega))⟩
  · obtain ⟨g, hg⟩ := h.ws i hi
    exact ⟨g, hg.congr (he _ (by omega))⟩

/-- Transaction j is laid into the block. -/
theorem Bs.lay {n bB bI gr gw : Nat} {rv wv : Nat → List Nat} {out : Nat → Bool} {j : Nat} (h : Bs R n bB bI rv wv out j) (hF : Fam w0 w R E) (hr : Filled R (400 + 2 * j) 65 2 gr (rv j) (rv j).length) (hw : Filled R (401 + 2 * j) 68 3 gw (wv j) (wv j).length) :
    ∃ R', Fam w0 ((((w.setCell ⟨bB, j * 4, none⟩ (.string ⟨#[]⟩)).setCell ⟨bB, j * 4 + 1, none⟩ (.slice (some ⟨gr, 0, none⟩) (rv j).length (rv j).length)).setCell ⟨bB, j * 4 + 2, none⟩ (.slice (some ⟨gw, 0, none⟩) (wv j).length (wv j).length)).setCell ⟨bB, j * 4 + 3, none⟩ (.slice none 0 0)) R' E ∧
      (∃ f, R' 19 = ⟨some bB, n, 70, 4, n, tab (n * 4) f⟩ ∧ ∀ i, i < j + 1 → f (i * 4 + 1) = (R' (400 + 2 * i)).val ∧ f (i * 4 + 2) = (R' (401 + 2 * i)).val ∧ f (i * 4) = .string ⟨#[]⟩ ∧ f (i * 4 + 3) = .slice none 0 0) ∧ ∀ i, i ≠ 19 → R' i = R i := by
  obtain ⟨f, h1, h2⟩ := h.blk
  have s1 := hF.set (i := 19) (b := bB) (j := j * 4) (v := .string ⟨#[]⟩) (by rw [h1])
  rw [h1] at s1
  have s2 := s1.set (i := 19) (b := bB) (j := j * 4 + 1) (v := .slice (some ⟨gr, 0, none⟩) (rv j).length (rv j).length) (by rw [put_eq])
  rw [put_eq, put_put] at s2
  have s3 := s2.set (i := 19) (b := bB) (j := j * 4 + 2) (v := .slice (some ⟨gw, 0, none⟩) (wv j).length (wv j).length) (by rw [put_eq])
  rw [put_eq, put_put] at s3
  have s4 := s3.set (i := 19) (b := bB) (j := j * 4 + 3) (v := .slice none 0 0) (by rw [put_eq])
  rw [put_eq, put_put] at s4
  refine ⟨_, s4, ⟨fun i => if i = j * 4 + 3 then .slice none 0 0 else if i = j * 4 + 2 then .slice (some ⟨gw, 0, none⟩) (wv j).length (wv j).length else if i = j * 4 + 1 then .slice (some ⟨gr, 0, none⟩) (rv j).length (rv j).length else if i = j * 4 then .string ⟨#[]⟩ else f i, ?_, fun i hi => ?_⟩, fun i hi => put_ne hi⟩
  · rw [put_eq]
    simp only [Row.mk.injEq, true_and]
    rw [tab_set (g := fun i => if i = j * 4 then .string ⟨#[]⟩ else f i) (by simp) (fun i hi => by simp [hi])]
    rw [tab_set (g := fun i => if i = j * 4 + 1 then .slice (some ⟨gr, 0, none⟩) (rv j).length (rv j).length else if i = j * 4 then .string ⟨#[]⟩ else f i) (by simp) (fun i hi => by simp [hi])]
    rw [tab_set (g := fun i => if i = j * 4 + 2 then .slice (some ⟨gw, 0, none⟩) (wv j).length (wv j).length else if i = j * 4 + 1 then .slice (some ⟨gr, 0, none⟩) (rv j).length (rv j).length else if i = j * 4 then .string ⟨#[]⟩ else f i) (by simp) (fun i hi => by simp [hi])]
    exact tab_set (by simp) (fun i hi => by simp [hi])
  · rw [put_ne (by omega), put_ne (by omega)]
    by_cases e : i = j
    · subst e
      rw [hr.val, hw.val]
      simp
    · have hi' : i < j := by omega
      dsimp only
      rw [if_neg (by omega), if_neg (by omega), if_neg (by omega), if_neg (by omega), if_neg (by omega), if_neg (by omega), if_neg (by omega), if_neg (by omega), if_neg (by omega), if_neg (by omega), if_neg (by omega), if_neg (by omega), if_neg (by omega), if_neg (by omega), if_neg (by omega), if_neg (by omega)]
      exact h2 i hi'
theorem Bs.cells {n bB bI : Nat} {rv wv : Nat → List Nat} {out : Nat → Bool} {j : Nat} (h : Bs R n bB bI rv wv out j) (hF : Fam w0 w R E) {k : Nat} (hk : k < n * 4) : (∃ v, w.cell? ⟨bB, k, none⟩ = some v) ∧ w.frozen? ⟨bB, k, none⟩ = false := by
  obtain ⟨f, h1, _⟩ := h.blk
  exact ⟨⟨f k, hF.cell (i := 19) (by rw [h1]) (by rw [h1]; exact tab_get hk)⟩, hF.free (i := 19) (by rw [h1]) k⟩
end
end Go.Proofs.Ybulkajny
