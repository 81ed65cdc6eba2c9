import Derived.Test.YbulkajnyNpS
import Derived.Test.YbulkajnyNpLaw
import Derived.Test.YbulkajnyCyc0
import Derived.Test.YbulkajnyHeapSort
import Derived.Laws.AppendOwnNone
namespace Go.Proofs.Ybulkajny
open Go.RowKit Go.Sort Go.Maps

/-- The plain state of newPrecedence. -/
structure NS where
  ks : List Nat
  wl : List Nat
  rl : List Nat
  rds : Nat → List Nat
  wrs : Nat → List Nat
  lw : List Nat
  lp : List Nat

/-- The rows of reads and writes. -/
structure NR (R : Nat → Row) (n : Nat) (b : Nat → Nat) (rds wrs : Nat → List Nat) : Prop where
  r1 : R 1 = ⟨some (b 1), n, 22, 1, n, tab n (fun i => (R (100 + 4 * i)).val)⟩
  r2 : R 2 = ⟨some (b 2), n, 22, 1, n, tab n (fun i => (R (101 + 4 * i)).val)⟩
  rd : ∀ i, i < n → ∃ p q, R (100 + 4 * i) = ⟨p, q, 21, 1, (rds i).length, (rds i).map i32⟩
  wr : ∀ i, i < n → ∃ p q, R (101 + 4 * i) = ⟨p, q, 21, 1, (wrs i).length, (wrs i).map i32⟩

def lslice (p : Option Nat) (n c : Nat) : Value := .slice (p.map fun b => ⟨b, 0, none⟩) n c

structure Nf (R : Nat → Row) (n : Nat) (b x : Nat → Nat) (mb : Nat) (s : NS) (v13 v14 : Value) : Prop where
  cap : Cap R x mb s.wl s.rl
  nr : NR R n b s.rds s.wrs
  r47 : ∃ f, R 47 = ⟨some (b 47), n, 21, 1, n, tab n f⟩
  lw : ∃ p c, R 51 = ⟨p, c, 21, 1, s.lw.length, s.lw.map i32⟩ ∧ v13 = .slice (p.map fun b => ⟨b, 0, none⟩) s.lw.length c
  lp : ∃ p c, R 52 = ⟨p, c, 21, 1, s.lp.length, s.lp.map i32⟩ ∧ v14 = .slice (p.map fun b => ⟨b, 0, none⟩) s.lp.length c ∧ (s.lp = [] → p = none ∧ c = 0)

def Nset (i : Nat) : Prop := i = 1 ∨ i = 2 ∨ i = 47 ∨ i = 51 ∨ i = 52 ∨ (42 ≤ i ∧ i ≤ 46) ∨ (100 ≤ i ∧ i < 400 ∧ (i % 4 = 0 ∨ i % 4 = 1))

def Nj (w0 w : World) (R0 : Nat → Row) (n : Nat) (b x : Nat → Nat) (mb : Nat) (s : NS) (v13 v14 : Value) : Prop :=
  ∃ R o D, Fam w0 w R (some (mb, o)) ∧ Ids w mb s.ks D ∧ Nf R n b x mb s v13 v14 ∧ ∀ i, ¬ Nset i → R i = R0 i

section
variable {w0 w w' : World} {R R' R0 : Nat → Row} {n mb : Nat} {b x : Nat → Nat} {s s' : NS} {v13 v14 v13' v14' : Value} {o : Obj} {D : DataW Unit} {wl rl : List Nat} {rds wrs : Nat → List Nat}

theorem Cap.congr (h : Cap R x mb wl rl) (he : ∀ i, 42 ≤ i → i ≤ 46 → R' i = R i) : Cap R' x mb wl rl := by
  have e2 := he 42 (by omega) (by omega)
  have e3 := he 43 (by omega) (by omega)
  have e4 := he 44 (by omega) (by omega)
  have e5 := he 45 (by omega) (by omega)
  have e6 := he 46 (by omega) (by omega)
  exact ⟨by rw [e2]; exact h.b42, by rw [e3, e5]; exact h.b43, by rw [e4, e6]; exact h.b44, by rw [e5]; exact h.r45, by rw [e6]; exact h.r46⟩
theorem NR.congr (h : NR R n b rds wrs) (he : ∀ i, (i = 1 ∨ i = 2 ∨ (100 ≤ i ∧ (i % 4 = 0 ∨ i % 4 = 1))) → R' i = R i) : NR R' n b rds wrs := by
  refine ⟨?_, ?_, fun i hi => ?_, fun i hi => ?_⟩
  · rw [he 1 (.inl rfl), h.r1]
    simp only [Row.mk.injEq, true_and]
    exact tab_congr (fun j _ => by rw [he _ (by omega)])
  · rw [he 2 (by omega), h.r2]
    simp only [Row.mk.injEq, true_and]
    exact tab_congr (fun j _ => by rw [he _ (by omega)])
  · rw [he _ (by omega)]; exact h.rd i hi
  · rw [he _ (by omega)]; exact h.wr i hi
theorem NR.setR {t : Nat} {p : Option Nat} {c m : Nat} {l : List Nat} {xs : List Value} {E : Option (Nat × Obj)} (h : NR R n b rds wrs) (hm : m = l.length) (hxs : xs = l.map i32) (hF : Fam w0 w (put R (100 + 4 * t) ⟨p, c, 21, 1, m, xs⟩) E) :
    ∃ R', Fam w0 (w.setCell ⟨b 1, t, none⟩ (.slice (p.map fun b => ⟨b, 0, none⟩) m c)) R' E ∧ NR R' n b (ud rds t l) wrs ∧ ∀ i, i ≠ 1 → i ≠ 100 + 4 * t → R' i = R i := by
  have hs := hF.set (i := 1) (b := b 1) (j := t) (v := .slice (p.map fun b => ⟨b, 0, none⟩) m c) (by rw [put_ne (by omega), h.r1])
  refine ⟨_, hs, ⟨?_, ?_, fun j hj => ?_, fun j hj => ?_⟩, fun i h1 h2 => by rw [put_ne h1, put_ne h2]⟩
  · rw [put_eq, put_ne (by omega), h.r1]
    simp only [Row.mk.injEq, true_and]
    refine tab_set ?_ (fun i hi => ?_)
    · rw [put_ne (by omega), put_eq]; rfl
    · rw [put_ne (by omega), put_ne (by omega)]
  · rw [put_ne (by omega), put_ne (by omega), h.r2]
    simp only [Row.mk.injEq, true_and]
    exact tab_congr (fun j _ => by rw [put_ne (by omega), put_ne (by omega)])
  · rw [put_ne (by omega)]
    by_cases e : j = t
    · subst e; exact ⟨p, c, by rw [put_eq, hm, hxs]; simp [ud_eq]⟩
    · rw [put_ne (by omega)]; simp only [ud_ne e]; exact h.rd j hj
  · rw [put_ne (by omega), put_ne (by omega)]; exact h.wr j hj
theorem NR.setW {t : Nat} {p : Option Nat} {c m : Nat} {l : List Nat} {xs : List Value} {E : Option (Nat × Obj)} (h : NR R n b rds wrs) (hm : m = l.length) (hxs : xs = l.map i32) (hF : Fam w0 w (put R (101 + 4 * t) ⟨p, c, 21, 1, m, xs⟩) E) :
    ∃ R', Fam w0 (w.setCell ⟨b 2, t, none⟩ (.slice (p.map fun b => ⟨b, 0, none⟩) m c)) R' E ∧ NR R' n b rds (ud wrs t l) ∧ ∀ i, i ≠ 2 → i ≠ 101 + 4 * t → R' i = R i := by
  have hs := hF.set (i := 2) (b := b 2) (j := t) (v := .slice (p.map fun b => ⟨b, 0, none⟩) m c) (by rw [put_ne (by omega), h.r2])
  refine ⟨_, hs, ⟨?_, ?_, fun j hj => ?_, fun j hj => ?_⟩, fun i h1 h2 => by rw [put_ne h1, put_ne h2]⟩
  · rw [put_ne (by omega), put_ne (by omega), h.r1]
    simp only [Row.mk.injEq, true_and]
    exact tab_congr (fun j _ => by rw [put_ne (by omega), put_ne (by omega)])
  · rw [put_eq, put_ne (by omega), h.r2]
    simp only [Row.mk.injEq, true_and]
    refine tab_set ?_ (fun i hi => ?_)
    · rw [put_ne (by omega), put_eq]; rfl
    · rw [put_ne (by omega), put_ne (by omega)]
  · rw [put_ne (by omega), put_ne (by omega)]; exact h.rd j hj
  · rw [put_ne (by omega)]
    by_cases e : j = t
    · subst e; exact ⟨p, c, by rw [put_eq, hm, hxs]; simp [ud_eq]⟩
    · rw [put_ne (by omega)]; simp only [ud_ne e]; exact h.wr j hj

/-- A new state of the rows: the map is as it was. -/
theorem Nj.of (h : Fam w0 w R (some (mb, o))) (hI : Ids w mb s.ks D) (h' : Fam w0 w' R' (some (mb, o))) (hf : Nf R' n b x mb s' v13 v14) (hk : s'.ks = s.ks) (hR : ∀ i, ¬ Nset i → R' i = R0 i) : Nj w0 w' R0 n b x mb s' v13 v14 :=
  ⟨R', o, D, h', by rw [hk]; exact hI.block ((h'.ext mb o rfl).1.trans (h.ext mb o rfl).1.symm), hf, hR⟩
theorem Nj.only0 (h : Nj w0 w R0 n b x mb s v13 v14) (ho : Only (fun _ => False) w w') : Nj w0 w' R0 n b x mb s v13 v14 := by
  obtain ⟨R, o, D, h, hI, hf, hR⟩ := h
  exact Nj.of h hI (h.only0 ho) hf rfl hR
theorem Nj.alloc (h : Nj w0 w R0 n b x mb s v13 v14) (o : Obj) : Nj w0 (w.alloc o) R0 n b x mb s v13 v14 := h.only0 (only_alloc w o)
theorem Nj.drew (h : Nj w0 w R0 n b x mb s v13 v14) : Nj w0 w.drew R0 n b x mb s v13 v14 := h.only0 (only_drew w)
theorem Nj.cell (h : Nj w0 w R0 n b x mb s v13 v14) {i d j : Nat} {v : Value} (hi : ¬ Nset i) (hc : (R0 i).blk = some d) (hj : (R0 i).xs[j]? = some v) : w.cell? ⟨d, j, none⟩ = some v := by
  obtain ⟨R, o, D, h, _, _, hR⟩ := h
  exact h.cell (i := i) (by rw [hR i hi]; exact hc) (by rw [hR i hi]; exact hj)
theorem Nj.ok (h : Nj w0 w R0 n b x mb s v13 v14) {i : Nat} (hi : ¬ Nset i) : (R0 i).ok w0.heap.size w := by
  obtain ⟨R, o, D, h, _, _, hR⟩ := h
  rw [← hR i hi]; exact h.ok i
theorem Nj.ksle (h : Nj w0 w R0 n b x mb s v13 v14) : s.ks.length ≤ 4 ∧ s.ks.Nodup ∧ ∀ y, y ∈ s.ks → y < 4 := by
  obtain ⟨R, o, D, h, hI, _, hR⟩ := h
  exact ⟨hI.le, hI.nd, hI.lt⟩

theorem nset43 {i : Nat} (h : ¬ Nset i) : ¬ (43 ≤ i ∧ i ≤ 46) := fun e => h (by unfold Nset; omega)
/-- A key's id. -/
def NjIdPost (w0 : World) (R0 : Nat → Row) (n : Nat) (b x : Nat → Nat) (mb : Nat) (s : NS) (v13 v14 : Value) (y : Nat) (e : Ending) (w' : World) : Prop :=
  ∃ ks' wl' rl', e = .returned (i32 (ks'.idxOf y)) ∧ y ∈ ks' ∧ Nj w0 w' R0 n b x mb { s with ks := ks', wl := wl', rl := rl' } v13 v14 ∧
    ((y ∈ s.ks ∧ ks' = s.ks ∧ wl' = s.wl ∧ rl' = s.rl) ∨ (y ∉ s.ks ∧ ks' = s.ks ++ [y] ∧ wl' = s.wl ++ [0] ∧ rl' = s.rl ++ [0]))
theorem Nj.id (h : Nj w0 w R0 n b x mb s v13 v14) (hl : s.wl.length ≤ 100) (hr : s.rl.length ≤ 100) (v : Nat) :
    Calls Yba.prog 25 #[.string (keyS v), .pointer (some ⟨x 42, 0, none⟩), .pointer (some ⟨x 43, 0, none⟩), .pointer (some ⟨x 44, 0, none⟩)] w (NjIdPost w0 R0 n b x mb s v13 v14 (v % 4)) := by
  obtain ⟨R, o, D, h, hI, hf, hR⟩ := h
  refine Calls.mono (id_any h hI hf.cap hl hr) ?_
  rintro e w' ⟨R', o', D', ks', wl', rl', rfl, h', hI', hc', hy, he, hd⟩
  refine ⟨ks', wl', rl', rfl, hy, ⟨R', o', D', h', hI', ⟨hc', hf.nr.congr (fun i hi => he i (by omega)), ?_, ?_, ?_⟩, fun i hi => (he i (nset43 hi)).trans (hR i hi)⟩, hd⟩
  · rw [he 47 (by omega)]; exact hf.r47
  · rw [he 51 (by omega)]; exact hf.lw
  · rw [he 52 (by omega)]; exact hf.lp

/-- 'written', one entry: read and set. -/
theorem Nj.wAt (h : Nj w0 w R0 n b x mb s v13 v14) {k v : Nat} (hk : s.wl[k]? = some v) : ∃ g c, w.cell? ⟨x 43, 0, none⟩ = some (.slice (some ⟨g, 0, none⟩) s.wl.length c) ∧ w.cell? ⟨g, k, none⟩ = some (i32 v) ∧ w.frozen? ⟨g, k, none⟩ = false ∧
    ∀ u, Nj w0 (w.setCell ⟨g, k, none⟩ (i32 u)) R0 n b x mb { s with wl := s.wl.set k u } v13 v14 := by
  obtain ⟨R, o, D, h, hI, hf, hR⟩ := h
  obtain ⟨p, c, hrow⟩ := hf.cap.r45
  have hok := h.ok 45
  rw [hrow] at hok
  obtain ⟨g, rfl⟩ := hok.at hk
  refine ⟨g, c, ?_, ?_, h.free (i := 45) (by rw [hrow]) k, fun u => ?_⟩
  · have := h.cell (i := 43) (b := x 43) (j := 0) (v := (R 45).val) (by rw [hf.cap.b43]) (by rw [hf.cap.b43]; rfl)
    rw [hrow] at this
    exact this
  · exact h.cell (i := 45) (by rw [hrow]) (by rw [hrow]; simp [hk])
  · have hs := h.set (i := 45) (b := g) (j := k) (v := i32 u) (by rw [hrow])
    rw [hrow] at hs
    refine Nj.of h hI hs ⟨⟨?_, ?_, ?_, ⟨some g, c, ?_⟩, ?_⟩, hf.nr.congr (fun i hi => put_ne (by omega)), ?_, ?_, ?_⟩ rfl (fun i hi => by rw [put_ne (fun e => hi (by unfold Nset; omega))]; exact hR i hi)
    · rw [put_ne (by omega)]; exact hf.cap.b42
    · rw [put_ne (by omega), put_eq, hf.cap.b43, hrow]; rfl
    · rw [put_ne (by omega), put_ne (by omega)]; exact hf.cap.b44
    · rw [put_eq]; simp only [List.map_set, List.length_set]
    · rw [put_ne (by omega)]; exact hf.cap.r46
    · rw [put_ne (by omega)]; exact hf.r47
    · rw [put_ne (by omega)]; exact hf.lw
    · rw [put_ne (by omega)]; exact hf.lp
theorem Nj.rAt (h : Nj w0 w R0 n b x mb s v13 v14) {k v : Nat} (hk : s.rl[k]? = some v) : ∃ g c, w.cell? ⟨x 44, 0, none⟩ = some (.slice (some ⟨g, 0, none⟩) s.rl.length c) ∧ w.cell? ⟨g, k, none⟩ = some (i32 v) ∧ w.frozen? ⟨g, k, none⟩ = false ∧
    ∀ u, Nj w0 (w.setCell ⟨g, k, none⟩ (i32 u)) R0 n b x mb { s with rl := s.rl.set k u } v13 v14 := by
  obtain ⟨R, o, D, h, hI, hf, hR⟩ := h
  obtain ⟨p, c, hrow⟩ := hf.cap.r46
  have hok := h.ok 46
  rw [hrow] at hok
  obtain ⟨g, rfl⟩ := hok.at hk
  refine ⟨g, c, ?_, ?_, h.free (i := 46) (by rw [hrow]) k, fun u => ?_⟩
  · have := h.cell (i := 44) (b := x 44) (j := 0) (v := (R 46).val) (by rw [hf.cap.b44]) (by rw [hf.cap.b44]; rfl)
    rw [hrow] at this
    exact this
  · exact h.cell (i := 46) (by rw [hrow]) (by rw [hrow]; simp [hk])
  · have hs := h.set (i := 46) (b := g) (j := k) (v := i32 u) (by rw [hrow])
    rw [hrow] at hs
    refine Nj.of h hI hs ⟨⟨?_, ?_, ?_, ?_, ⟨some g, c, ?_⟩⟩, hf.nr.congr (fun i hi => put_ne (by omega)), ?_, ?_, ?_⟩ rfl (fun i hi => by rw [put_ne (fun e => hi (by unfold Nset; omega))]; exact hR i hi)
    · rw [put_ne (by omega)]; exact hf.cap.b42
    · rw [put_ne (by omega), put_ne (by omega)]; exact hf.cap.b43
    · rw [put_ne (by omega), put_eq, hf.cap.b44, hrow]; rfl
    · rw [put_ne (by omega)]; exact hf.cap.r45
    · rw [put_eq]; simp only [List.map_set, List.length_set]
    · rw [put_ne (by omega)]; exact hf.r47
    · rw [put_ne (by omega)]; exact hf.lw
    · rw [put_ne (by omega)]; exact hf.lp

/-- The local rows, ahead of an append and behind it. -/
theorem Nj.readyL (h : Nj w0 w R0 n b x mb s v13 v14) (k : Nat) : ∃ R o p c, Fam w0 w R (some (mb, o)) ∧ R 51 = ⟨p, c, 21, 1, s.lw.length, s.lw.map i32⟩ ∧ v13 = .slice (p.map fun b => ⟨b, 0, none⟩) s.lw.length c ∧
    ∀ g cap w2, Fam w0 w2 (put R 51 ⟨some g, cap, 21, 1, s.lw.length + 1, s.lw.map i32 ++ [i32 k]⟩) (some (mb, o)) → Nj w0 w2 R0 n b x mb { s with lw := s.lw ++ [k] } (.slice (some ⟨g, 0, none⟩) (s.lw.length + 1) cap) v14 := by
  obtain ⟨R, o, D, h, hI, hf, hR⟩ := h
  obtain ⟨p, c, hrow, hv⟩ := hf.lw
  refine ⟨R, o, p, c, h, hrow, hv, fun g cap w2 h2 => Nj.of h hI h2 ⟨hf.cap.congr (fun i h1 h2 => put_ne (by omega)), hf.nr.congr (fun i hi => put_ne (by omega)), ?_, ⟨some g, cap, ?_, ?_⟩, ?_⟩ rfl (fun i hi => by rw [put_ne (fun e => hi (by unfold Nset; omega))]; exact hR i hi)⟩
  · rw [put_ne (by omega)]; exact hf.r47
  · rw [put_eq]; simp
  · simp
  · rw [put_ne (by omega)]; exact hf.lp
theorem Nj.readyP (h : Nj w0 w R0 n b x mb s v13 v14) (k : Nat) : ∃ R o p c, Fam w0 w R (some (mb, o)) ∧ R 52 = ⟨p, c, 21, 1, s.lp.length, s.lp.map i32⟩ ∧ v14 = .slice (p.map fun b => ⟨b, 0, none⟩) s.lp.length c ∧
    ∀ g cap w2, Fam w0 w2 (put R 52 ⟨some g, cap, 21, 1, s.lp.length + 1, s.lp.map i32 ++ [i32 k]⟩) (some (mb, o)) → Nj w0 w2 R0 n b x mb { s with lp := s.lp ++ [k] } v13 (.slice (some ⟨g, 0, none⟩) (s.lp.length + 1) cap) := by
  obtain ⟨R, o, D, h, hI, hf, hR⟩ := h
  obtain ⟨p, c, hrow, hv, _⟩ := hf.lp
  refine ⟨R, o, p, c, h, hrow, hv, fun g cap w2 h2 => Nj.of h hI h2 ⟨hf.cap.congr (fun i h1 h2 => put_ne (by omega)), hf.nr.congr (fun i hi => put_ne (by omega)), ?_, ?_, ⟨some g, cap, ?_, ?_, ?_⟩⟩ rfl (fun i hi => by rw [put_ne (fun e => hi (by unfold Nset; omega))]; exact hR i hi)⟩
  · rw [put_ne (by omega)]; exact hf.r47
  · rw [put_ne (by omega)]; exact hf.lw
  · rw [put_eq]; simp
  · simp
  · intro e; simp at e
/-- The local rows are nil anew. -/
theorem Nj.fresh (h : Nj w0 w R0 n b x mb s v13 v14) : Nj w0 w R0 n b x mb { s with lw := [], lp := [] } (.slice none 0 0) (.slice none 0 0) := by
  obtain ⟨R, o, D, h, hI, hf, hR⟩ := h
  have h2 := (h.nilRow 51 21 1).nilRow 52 21 1
  refine Nj.of h hI h2 ⟨hf.cap.congr (fun i h1 h2 => by rw [put_ne (by omega), put_ne (by omega)]), hf.nr.congr (fun i hi => by rw [put_ne (by omega), put_ne (by omega)]), ?_, ⟨none, 0, ?_, rfl⟩, ⟨none, 0, ?_, rfl, fun _ => ⟨rfl, rfl⟩⟩⟩ rfl (fun i hi => by rw [put_ne (fun e => hi (by unfold Nset; omega)), put_ne (fun e => hi (by unfold Nset; omega))]; exact hR i hi)
  · rw [put_ne (by omega), put_ne (by omega)]; exact hf.r47
  · rw [put_ne (by omega), put_eq]; rfl
  · rw [put_eq]; rfl
/-- Another row outside is made. -/
theorem Nj.make (h : Nj w0 w R0 n b x mb s v13 v14) (i : Nat) (hi : ¬ Nset i) (hl : i < 100) (cs : Array Value) (t : TypeId) (sz m : Nat) (hs : cs.size = m * sz) (hm : m ≤ maxLen) :
    Nj w0 (w.alloc (.cells cs t)) (put R0 i ⟨some w.heap.size, m, t, sz, m, cs.toList⟩) n b x mb s v13 v14 := by
  obtain ⟨R, o, D, h, hI, hf, hR⟩ := h
  have hx : ∀ j, Nset j → put R i ⟨some w.heap.size, m, t, sz, m, cs.toList⟩ j = R j := fun j hj => put_ne (fun e => hi (e ▸ hj))
  unfold Nset at hi
  refine Nj.of h hI (h.make (i := i) cs t sz m hs hm) ⟨hf.cap.congr (fun j h1 h2 => hx j (by unfold Nset; omega)), hf.nr.congr (fun j hj => put_ne (by omega)), ?_, ?_, ?_⟩ rfl (fun j hj => ?_)
  · rw [hx 47 (by unfold Nset; omega)]; exact hf.r47
  · rw [hx 51 (by unfold Nset; omega)]; exact hf.lw
  · rw [hx 52 (by unfold Nset; omega)]; exact hf.lp
  · by_cases e : j = i
    · subst e; rw [put_eq, put_eq]
    · rw [put_ne e, put_ne e]; exact hR j hj

/-- reads[t], ahead of its change and behind it. -/
theorem Nj.readyR (h : Nj w0 w R0 n b x mb s v13 v14) {t : Nat} (ht : t < n) (hn : n ≤ 64) : ∃ R o p c, Fam w0 w R (some (mb, o)) ∧ R (100 + 4 * t) = ⟨p, c, 21, 1, (s.rds t).length, (s.rds t).map i32⟩ ∧ (R 1).blk = some (b 1) ∧ w.cell? ⟨b 1, t, none⟩ = some (.slice (p.map fun b => ⟨b, 0, none⟩) (s.rds t).length c) ∧ (∀ i, ¬ Nset i → R i = R0 i) ∧
    (∃ p2 c2, R 52 = ⟨p2, c2, 21, 1, s.lp.length, s.lp.map i32⟩ ∧ v14 = .slice (p2.map fun b => ⟨b, 0, none⟩) s.lp.length c2 ∧ (s.lp = [] → p2 = none ∧ c2 = 0)) ∧
    ∀ p' c' m l xs w2, m = l.length → xs = l.map i32 → Fam w0 w2 (put R (100 + 4 * t) ⟨p', c', 21, 1, m, xs⟩) (some (mb, o)) →
      w2.cell? ⟨b 1, t, none⟩ = some (.slice (p.map fun b => ⟨b, 0, none⟩) (s.rds t).length c) ∧ w2.frozen? ⟨b 1, t, none⟩ = false ∧ (∀ i d j v, ¬ Nset i → (R0 i).blk = some d → (R0 i).xs[j]? = some v → w2.cell? ⟨d, j, none⟩ = some v) ∧
      Nj w0 (w2.setCell ⟨b 1, t, none⟩ (.slice (p'.map fun b => ⟨b, 0, none⟩) m c')) R0 n b x mb { s with rds := ud s.rds t l } v13 v14 := by
  obtain ⟨R, o, D, h, hI, hf, hR⟩ := h
  obtain ⟨p, c, hrow⟩ := hf.nr.rd t ht
  have hv : (R (100 + 4 * t)).val = .slice (p.map fun b => ⟨b, 0, none⟩) (s.rds t).length c := by rw [hrow]; rfl
  refine ⟨R, o, p, c, h, hrow, by rw [hf.nr.r1], ?_, hR, hf.lp, fun p' c' m l xs w2 hm hxs h2 => ⟨?_, ?_, fun i d j v hi hd hj => ?_, ?_⟩⟩
  · exact h.cell (i := 1) (by rw [hf.nr.r1]) (by rw [hf.nr.r1, ← hv]; exact tab_get ht)
  · exact h2.cell (i := 1) (by rw [put_ne (by omega), hf.nr.r1]) (by rw [put_ne (by omega), hf.nr.r1, ← hv]; exact tab_get ht)
  · exact h2.free (i := 1) (by rw [put_ne (by omega), hf.nr.r1]) t
  · have hne : i ≠ 100 + 4 * t := fun e => hi (by unfold Nset; omega)
    exact h2.cell (i := i) (by rw [put_ne hne, hR i hi]; exact hd) (by rw [put_ne hne, hR i hi]; exact hj)
  · obtain ⟨R', h3, hnr, he⟩ := hf.nr.setR hm hxs h2
    refine Nj.of h hI h3 ⟨hf.cap.congr (fun i h1 h2 => he i (by omega) (by omega)), hnr, ?_, ?_, ?_⟩ rfl (fun i hi => (he i (fun e => hi (by unfold Nset; omega)) (fun e => hi (by unfold Nset; omega))).trans (hR i hi))
    · rw [he 47 (by omega) (by omega)]; exact hf.r47
    · rw [he 51 (by omega) (by omega)]; exact hf.lw
    · rw [he 52 (by omega) (by omega)]; exact hf.lp
theorem Nj.readyW (h : Nj w0 w R0 n b x mb s v13 v14) {t : Nat} (ht : t < n) (hn : n ≤ 64) : ∃ R o p c, Fam w0 w R (some (mb, o)) ∧ R (101 + 4 * t) = ⟨p, c, 21, 1, (s.wrs t).length, (s.wrs t).map i32⟩ ∧ (R 2).blk = some (b 2) ∧ w.cell? ⟨b 2, t, none⟩ = some (.slice (p.map fun b => ⟨b, 0, none⟩) (s.wrs t).length c) ∧ (∀ i, ¬ Nset i → R i = R0 i) ∧
    (∃ p2 c2, R (100 + 4 * t) = ⟨p2, c2, 21, 1, (s.rds t).length, (s.rds t).map i32⟩ ∧ (R 1).blk = some (b 1) ∧ w.cell? ⟨b 1, t, none⟩ = some (.slice (p2.map fun b => ⟨b, 0, none⟩) (s.rds t).length c2)) ∧
    ∀ p' c' m l xs w2, m = l.length → xs = l.map i32 → Fam w0 w2 (put R (101 + 4 * t) ⟨p', c', 21, 1, m, xs⟩) (some (mb, o)) →
      (∃ u, w2.cell? ⟨b 2, t, none⟩ = some u) ∧ w2.cell? ⟨b 2, t, none⟩ = some (.slice (p.map fun b => ⟨b, 0, none⟩) (s.wrs t).length c) ∧ w2.frozen? ⟨b 2, t, none⟩ = false ∧ (∀ i d j v, ¬ Nset i → (R0 i).blk = some d → (R0 i).xs[j]? = some v → w2.cell? ⟨d, j, none⟩ = some v) ∧
      Nj w0 (w2.setCell ⟨b 2, t, none⟩ (.slice (p'.map fun b => ⟨b, 0, none⟩) m c')) R0 n b x mb { s with wrs := ud s.wrs t l } v13 v14 := by
  obtain ⟨R, o, D, h, hI, hf, hR⟩ := h
  obtain ⟨p, c, hrow⟩ := hf.nr.wr t ht
  obtain ⟨p2, c2, hrow2⟩ := hf.nr.rd t ht
  have hv : (R (101 + 4 * t)).val = .slice (p.map fun b => ⟨b, 0, none⟩) (s.wrs t).length c := by rw [hrow]; rfl
  have hv2 : (R (100 + 4 * t)).val = .slice (p2.map fun b => ⟨b, 0, none⟩) (s.rds t).length c2 := by rw [hrow2]; rfl
  have hcc : ∀ p' c' m xs w2, Fam w0 w2 (put R (101 + 4 * t) ⟨p', c', 21, 1, m, xs⟩) (some (mb, o)) → w2.cell? ⟨b 2, t, none⟩ = some (.slice (p.map fun b => ⟨b, 0, none⟩) (s.wrs t).length c) := fun p' c' m xs w2 h2 => h2.cell (i := 2) (by rw [put_ne (by omega), hf.nr.r2]) (by rw [put_ne (by omega), hf.nr.r2, ← hv]; exact tab_get ht)
  refine ⟨R, o, p, c, h, hrow, by rw [hf.nr.r2], ?_, hR, ⟨p2, c2, hrow2, by rw [hf.nr.r1], h.cell (i := 1) (by rw [hf.nr.r1]) (by rw [hf.nr.r1, ← hv2]; exact tab_get ht)⟩, fun p' c' m l xs w2 hm hxs h2 => ⟨⟨_, hcc _ _ _ _ _ h2⟩, hcc _ _ _ _ _ h2, ?_, fun i d j v hi hd hj => ?_, ?_⟩⟩
  · exact h.cell (i := 2) (by rw [hf.nr.r2]) (by rw [hf.nr.r2, ← hv]; exact tab_get ht)
  · exact h2.free (i := 2) (by rw [put_ne (by omega), hf.nr.r2]) t
  · have hne : i ≠ 101 + 4 * t := fun e => hi (by unfold Nset; omega)
    exact h2.cell (i := i) (by rw [put_ne hne, hR i hi]; exact hd) (by rw [put_ne hne, hR i hi]; exact hj)
  · obtain ⟨R', h3, hnr, he⟩ := hf.nr.setW hm hxs h2
    refine Nj.of h hI h3 ⟨hf.cap.congr (fun i h1 h2 => he i (by omega) (by omega)), hnr, ?_, ?_, ?_⟩ rfl (fun i hi => (he i (fun e => hi (by unfold Nset; omega)) (fun e => hi (by unfold Nset; omega))).trans (hR i hi))
    · rw [he 47 (by omega) (by omega)]; exact hf.r47
    · rw [he 51 (by omega) (by omega)]; exact hf.lw
    · rw [he 52 (by omega) (by omega)]; exact hf.lp
/-- both[t] is set. -/
theorem Nj.setB (h : Nj w0 w R0 n b x mb s v13 v14) {t : Nat} (ht : t < n) : (∃ u, w.cell? ⟨b 47, t, none⟩ = some u) ∧ w.frozen? ⟨b 47, t, none⟩ = false ∧ ∀ v, Nj w0 (w.setCell ⟨b 47, t, none⟩ v) R0 n b x mb s v13 v14 := by
  obtain ⟨R, o, D, h, hI, hf, hR⟩ := h
  obtain ⟨f, h47⟩ := hf.r47
  refine ⟨⟨_, h.cell (i := 47) (by rw [h47]) (by rw [h47]; exact tab_get ht)⟩, h.free (i := 47) (by rw [h47]) t, fun v => ?_⟩
  have hs := h.set (i := 47) (b := b 47) (j := t) (v := v) (by rw [h47])
  rw [h47] at hs
  refine Nj.of h hI hs ⟨hf.cap.congr (fun i h1 h2 => put_ne (by omega)), hf.nr.congr (fun i hi => put_ne (by omega)), ⟨fun i => if i = t then v else f i, ?_⟩, ?_, ?_⟩ rfl (fun i hi => by rw [put_ne (fun e => hi (by unfold Nset; omega))]; exact hR i hi)
  · rw [put_eq]
    simp only [Row.mk.injEq, true_and]
    exact tab_set (by simp) (fun i hi => by simp [hi])
  · rw [put_ne (by omega)]; exact hf.lw
  · rw [put_ne (by omega)]; exact hf.lp
theorem Nj.blks (h : Nj w0 w R0 n b x mb s v13 v14) {G : Nat} (hG : (R0 0).blk = some G) : b 1 ≠ G ∧ b 2 ≠ G ∧ b 47 ≠ G ∧ b 1 ≠ b 2 ∧ b 1 ≠ b 47 ∧ b 2 ≠ b 47 := by
  obtain ⟨R, o, D, h, hI, hf, hR⟩ := h
  obtain ⟨f, h47⟩ := hf.r47
  have e0 : (R 0).blk = some G := by rw [hR 0 (by unfold Nset; omega)]; exact hG
  have e1 : (R 1).blk = some (b 1) := by rw [hf.nr.r1]
  have e2 : (R 2).blk = some (b 2) := by rw [hf.nr.r2]
  have e4 : (R 47).blk = some (b 47) := by rw [h47]
  exact ⟨h.ne e1 e0 (by omega), h.ne e2 e0 (by omega), h.ne e4 e0 (by omega), h.ne e1 e2 (by omega), h.ne e1 e4 (by omega), h.ne e2 e4 (by omega)⟩

/-- slices.Clone of a row. -/
theorem clone_fam {E : Option (Nat × Obj)} {j d : Nat} {p : Option Nat} {c : Nat} {l : List Nat} (h : Fam w0 w R E) (hrow : R j = ⟨p, c, 21, 1, l.length, l.map i32⟩) (hl : l.length ≤ 1024) :
    Calls Yba.prog 9 #[.slice (p.map fun b => ⟨b, 0, none⟩) l.length c] w fun e w' => ∃ p' c', e = .returned (.slice (p'.map fun b => ⟨b, 0, none⟩) l.length c') ∧ Fam w0 w' (put R d ⟨p', c', 21, 1, l.length, l.map i32⟩) E := by
  have hok := h.ok j
  rw [hrow] at hok
  cases p with
  | none =>
    have h0 : l.length = 0 ∧ c = 0 := by
      rcases hok.2 with ⟨hv, hn⟩ | ⟨g, cap, cur, hv, _⟩
      · injection hv with _ _ hc
        exact ⟨hn, hc⟩
      · cases hv
    have hnil : l = [] := List.eq_nil_of_length_eq_zero h0.1
    obtain ⟨_, rfl⟩ := h0
    subst hnil
    have HF : Hid (Fam w0 w (put R d ⟨none, 0, 21, 1, 0, []⟩) E) := h.nilRow d 21 1
    clear h hok hrow
    have q22 := fun (w : World) (a : Option Addr) (n c n' c' : Nat) => Lib.run_eql_slice_nil (P := Yba.prog) w 22 21 a n c n' c' Yba.underlying22
    go_enter Yba.func9, Yba.ntmps9
    go_wp2
    go_ret
    exact ⟨none, 0, rfl, HF.out⟩
  | some g =>
    have hc : ∀ i, i < l.length → w.cell? ⟨g, 0 + i, none⟩ = some (.int .i32 ((l.map (fun (x : Nat) => (x : Int))).getD i 0)) := fun i hi => by
      rw [Nat.zero_add]
      exact h.cell (i := j) (by rw [hrow]) (by rw [hrow]; simp [hi])
    refine Calls.mono (lawS1766AHeapSort.clone_any g 0 l.length c (l.map (fun (x : Nat) => (x : Int))) w (by simp) hl hc) ?_
    rintro e w' ⟨g', cap, rfl, hr, hg, hb⟩
    obtain ⟨cur, h1, h2, h3, h4, h5⟩ := hr
    have ho : Only (fun _ => False) w w' := ⟨hb.os, hb.tape, hb.output, hb.size, fun k hk _ => hb.block k hk⟩
    have hbase := h.size
    refine ⟨some g', cap, rfl, h.turn d _ (ho.mono (fun _ _ hf => hf.elim)) ?_ (fun q hq => .inr (by cases hq; exact hg))⟩
    refine Row.ok.of_shape (b := g') (cur := cur) rfl h1 (by omega) ?_ h4 (by simp [h2]) ?_
    · simpa using h3
    · simp at h5
      simp only [Nat.mul_one]
      exact h5
end

section
variable {P : Program} {w0 w : World} {E : Option (Nat × Obj)}
/-- 'append(x, ys...)' of several elements to row j, at a step of a region that draws. -/
theorem step_fam_apps {ops : Array Oper} {o : Oper} {a : Act} {K : Act → World → Prop} {Q : Exit → Act → World → Prop} {E' : Prop} (hgd : o.guard = none) (s x : Operand) (t : TypeId)
    (ho : o.op = .call { callee := .builtin .append, args := #[s, x], argTypes := #[t, t] })
    (e : TypeId) (i : TypeInfo) (z : Value) (size bytes : Nat) (ht : P.underlying t = some (.slice e)) (hi : P.info? e = some i) (hz : i.zero = some z)
    (hsize : i.size = size) (hby : i.bytes = bytes) (hzs : z.cells.size = size) (hsz : 0 < size) (hb100 : bytes ≤ 100)
    (R : Nat → Row) (j : Nat) (p : Option Nat) (cc n : Nat) (xs : List Value) (hrow : R j = ⟨p, cc, e, size, n, xs⟩) (h : Fam w0 w R E) (hs : a.eval s = .slice (p.map fun b => ⟨b, 0, none⟩) n cc) (hl : n ≤ 1000000)
    (ad : Addr) (m c : Nat) (hm0 : 0 < m) (hm1 : m ≤ 1000) (news : List Value) (hx : a.eval x = .slice (some ad) m c) (hnl : news.length = m * size) (hnews : ∀ j u, news[j]? = some u → w.cell? (ad.add j) = some u) (h1 : ∀ u ∈ news, u.oneCell' = true)
    (k : ∀ g cap w', Fam w0 w' (put R j ⟨some g, cap, e, size, n + m, xs ++ news⟩) E → K (a.put o.dst (.slice (some ⟨g, 0, none⟩) (n + m) cap)) w') :
    if Region.wanted o (yielded ops a.tmps) = true then Oper.wp P o a w K Q else E' := by
  have hv : (R j).val = .slice (p.map fun b => ⟨b, 0, none⟩) n cc := by rw [hrow]; rfl
  have hn : (R j).len = n := by rw [hrow]
  have hxs : (R j).xs = xs := by rw [hrow]
  have hty : (R j).typ = e := by rw [hrow]
  have hjs : (R j).sz = size := by rw [hrow]
  rw [← hv] at hs
  clear hrow hv
  subst hn hxs
  have hok : w.ownsRow w0.heap.size e size (R j).val (R j).len (R j).xs := by have := h.ok j; rw [← hty, ← hjs]; exact this
  refine step_append_lies _ hgd s x t ho w0.heap.size e i z size bytes ht hi hz hsize hby hzs hsz (R j).val (R j).len (R j).xs hs hok ad m c news hx hnl hnews h1 hm0 (by unfold maxLen; omega) ?_ h.size w.heap.size rfl ?_
  · have : ((R j).len + m) * bytes ≤ 1001000 * 100 := Nat.mul_le_mul (by omega) hb100
    omega
  · intro g cap w' hown hg hat _
    have := h.grown (i := j) (n := (R j).len + m) (g := g) (cap := cap) (by rw [hty, hjs]; exact hown) hg rfl (hat.imp_right (fun e => by omega))
    rw [hty, hjs] at this
    exact k g cap w' this
/-- The same, of a nil slice. -/
theorem step_fam_none {ops : Array Oper} {o : Oper} {a : Act} {K : Act → World → Prop} {Q : Exit → Act → World → Prop} {E' : Prop} (hgd : o.guard = none) (s x : Operand) (t : TypeId)
    (ho : o.op = .call { callee := .builtin .append, args := #[s, x], argTypes := #[t, t] })
    (e : TypeId) (i : TypeInfo) (size : Nat) (ht : P.underlying t = some (.slice e)) (hi : P.info? e = some i)
    (R : Nat → Row) (j : Nat) (p : Option Nat) (cc n : Nat) (xs : List Value) (hrow : R j = ⟨p, cc, e, size, n, xs⟩) (h : Fam w0 w R E) (hs : a.eval s = .slice (p.map fun b => ⟨b, 0, none⟩) n cc) (hx : a.eval x = .slice none 0 0)
    (k : K (a.put o.dst (.slice (p.map fun b => ⟨b, 0, none⟩) n cc)) w) :
    if Region.wanted o (yielded ops a.tmps) = true then Oper.wp P o a w K Q else E' := by
  have hok := h.ok j
  rw [hrow] at hok
  have hrun := run_append_owned_none (P := P) (w := w) w0.heap.size t o.type e i size ht hi _ n xs hok
  have hw : Region.wanted o (yielded ops a.tmps) = true := by unfold Region.wanted; rw [hgd]
  rw [if_pos hw]
  unfold Oper.wp
  simp only [execOp, ho, resolve, invoke, builtin, Sem.run_bind, Sem.run_pure, Result.andThen_ok, List.map_toArray, List.map_cons, List.map_nil, hs, hx]
  unfold Row.val at hrun
  rw [hrun]
  exact k
end
end Go.Proofs.Ybulkajny
