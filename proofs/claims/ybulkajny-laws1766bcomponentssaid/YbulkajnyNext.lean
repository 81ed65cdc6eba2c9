import Derived.Test.YbulkajnySt
import Derived.BigRegion
namespace Go.Proofs.Ybulkajny
open Go.RowKit Go.Sort

/-- The rows of the graph, by its successors. -/
structure Nodes (R : Nat → Row) (n K : Nat) (b : Nat → Nat) (succ : Nat → List Nat) : Prop where
  r1 : R 1 = ⟨some (b 1), n, 22, 1, n, tab n (fun i => (R (100 + 4 * i)).val)⟩
  r4 : R 4 = ⟨some (b 4), K, 22, 1, K, tab K (fun k => (R (103 + 4 * k)).val)⟩
  rd : ∀ i, i < n → ∃ (p : Option Nat) (c : Nat) (rs : List Nat), R (100 + 4 * i) = ⟨p, c, 21, 1, rs.length, rs.map i32⟩ ∧ succ i = rs.map (n + ·)
  ws : ∀ k, k < K → ∃ p c, R (103 + 4 * k) = ⟨p, c, 21, 1, (succ (n + k)).length, (succ (n + k)).map i32⟩
  len : ∀ v, v < n + K → (succ v).length ≤ 1000000
  bd : ∀ v, v < n + K → ∀ u, u ∈ succ v → u < n + K

section
variable {w0 w w' : World} {R0 : Nat → Row} {E : Option (Nat × Obj)} {N : Nat} {b : Nat → Nat} {s : TS}

theorem flat_length (l : List (Nat × Nat)) : (l.flatMap (fun f => [i32 f.1, i32 f.2])).length = 2 * l.length := by
  induction l with
  | nil => rfl
  | cons x l ih => simp [List.flatMap_cons] at ih ⊢; omega

/-- The frame on top. -/
theorem Tj.top (h : Tj w0 w R0 E N b s) {v i : Nat} {cs : List (Nat × Nat)} (hs : s.calls = (v, i) :: cs) :
    ∃ g c, w.cell? ⟨b 12, 0, none⟩ = some (.slice (some ⟨g, 0, none⟩) (cs.length + 1) c) ∧ w.cell? ⟨g, 2 * cs.length, none⟩ = some (i32 v) ∧ w.cell? ⟨g, 2 * cs.length + 1, none⟩ = some (i32 i) ∧
      w.frozen? ⟨g, 2 * cs.length + 1, none⟩ = false ∧ (∀ x, Tj w0 (w.setCell ⟨g, 2 * cs.length + 1, none⟩ (i32 x)) R0 E N b { s with calls := (v, x) :: cs }) ∧
      (∀ j a, ¬ (8 ≤ j ∧ j ≤ 17) → (R0 j).blk = some a → g ≠ a) ∧ g < w.heap.size ∧ cs.length + 1 ≤ c ∧ (∀ x, (w.setCell ⟨g, 2 * cs.length + 1, none⟩ (i32 x)).cell? ⟨b 12, 0, none⟩ = some (.slice (some ⟨g, 0, none⟩) (cs.length + 1) c)) := by
  obtain ⟨R, h, ht, hR⟩ := h
  obtain ⟨p, c, hrow⟩ := ht.calls
  have hok := h.ok 15
  cases p with
  | none =>
    rcases hok.2 with ⟨_, hn⟩ | ⟨g, cap, cur, hv, _⟩
    · rw [hrow, hs] at hn; simp at hn
    · rw [hrow] at hv; simp [Row.val] at hv
  | some g =>
    have hx : (R 15).xs = (cs.reverse.flatMap (fun f => [i32 f.1, i32 f.2])) ++ [i32 v, i32 i] := by rw [hrow, hs]; simp
    have hl : (cs.reverse.flatMap (fun f => [i32 f.1, i32 f.2])).length = 2 * cs.length := by rw [flat_length, List.length_reverse]
    have hb : (R 15).blk = some g := by rw [hrow]
    have hle : cs.length + 1 ≤ c := by
      obtain ⟨cur, _, _, h3, _⟩ := hok.shape hb
      rw [hrow, hs] at h3
      simpa using h3
    have hc12 : w.cell? ⟨b 12, 0, none⟩ = some (.slice (some ⟨g, 0, none⟩) (cs.length + 1) c) := h.cell (i := 12) (by rw [ht.cbox]) (by rw [ht.cbox, hrow, hs]; rfl)
    have hn12 : b 12 ≠ g := h.ne (i := 12) (j := 15) (by rw [ht.cbox]) hb (by omega)
    refine ⟨g, c, hc12, h.cell (i := 15) hb ?_, h.cell (i := 15) hb ?_, h.free (i := 15) hb _, fun x => ?_, fun j a hj ha => ?_, h.lt hb, hle, fun x => ((only_setCell w ⟨g, 2 * cs.length + 1, none⟩ (i32 x)).cell (p := ⟨b 12, 0, none⟩) (h.lt (i := 12) (by rw [ht.cbox])) hn12).trans hc12⟩
    · rw [hx, List.getElem?_append_right (by omega), hl, Nat.sub_self]; rfl
    · rw [hx, List.getElem?_append_right (by omega), hl]; simp
    · have hs' := h.set (i := 15) (b := g) (j := 2 * cs.length + 1) (v := i32 x) hb
      refine ⟨_, hs', ⟨?_, ?_, ?_, ?_, ?_, ?_, ?_, ?_, ?_, ?_⟩, rest_put hR (by omega) (by omega)⟩
      all_goals (simp only [put, reduceIte, Nat.reduceEqDiff])
      · exact ht.idx
      · exact ht.low
      · exact ht.on
      · exact ht.ctr
      · rw [ht.cbox]; rfl
      · exact ht.sbox
      · exact ht.ebox
      · refine ⟨some g, c, ?_⟩
        rw [hx, hrow, hs]
        simp only [Row.mk.injEq, List.length_cons, true_and]
        rw [List.set_append_right _ _ (by omega), hl]
        simp
      · exact ht.stk
      · exact ht.seen
    · exact h.ne (i := 15) (j := j) hb (by rw [hR j hj]; exact ha) (by omega)
end

section
variable {w0 w : World} {R0 : Nat → Row} {E : Option (Nat × Obj)} {n K G : Nat} {b : Nat → Nat} {gx : List Value} {st : Nat} {s : TS} {succ : Nat → List Nat}

/-- The row of a node's successors. -/
theorem Nodes.row_pos (hN : Nodes R0 n K b succ) {v i u : Nat} (hT : Tj w0 w R0 E (n + K) b s) (hv : v < n) (hu : (succ v)[i]? = some u) :
    ∃ g c u', w.cell? ⟨b 1, v, none⟩ = some (.slice (some ⟨g, 0, none⟩) (succ v).length c) ∧ w.cell? ⟨g, i, none⟩ = some (i32 u') ∧ u = n + u' ∧ (R0 (100 + 4 * v)).blk = some g := by
  obtain ⟨p, c, rs, hrow, hsucc⟩ := hN.rd v hv
  have hr1 : w.cell? ⟨b 1, v, none⟩ = some (R0 (100 + 4 * v)).val := hT.cell (i := 1) (by omega) (by rw [hN.r1]) (by rw [hN.r1]; exact tab_get hv)
  rw [hsucc, List.getElem?_map] at hu
  cases hg : rs[i]? with
  | none => rw [hg] at hu; cases hu
  | some u' =>
    rw [hg] at hu
    simp at hu
    cases p with
    | none =>
      obtain ⟨R, h, _, hR⟩ := hT
      have hok := h.ok (100 + 4 * v)
      rw [hR _ (by omega), hrow] at hok
      rcases hok.2 with ⟨_, hn⟩ | ⟨g, cap, cur, hv, _⟩
      · have : rs = [] := List.length_eq_zero_iff.1 hn
        rw [this] at hg; cases hg
      · simp [Row.val] at hv
    | some g =>
      refine ⟨g, c, u', ?_, hT.cell (i := 100 + 4 * v) (by omega) (by rw [hrow]) (by rw [hrow]; simp [hg]), hu.symm, by rw [hrow]⟩
      rw [hr1, hrow, hsucc]; simp [Row.val]
theorem Nodes.row_len (hN : Nodes R0 n K b succ) {v : Nat} (hT : Tj w0 w R0 E (n + K) b s) (hv : v < n) :
    ∃ p c, w.cell? ⟨b 1, v, none⟩ = some (.slice p (succ v).length c) := by
  obtain ⟨p, c, rs, hrow, hsucc⟩ := hN.rd v hv
  have hr1 : w.cell? ⟨b 1, v, none⟩ = some (R0 (100 + 4 * v)).val := hT.cell (i := 1) (by omega) (by rw [hN.r1]) (by rw [hN.r1]; exact tab_get hv)
  exact ⟨p.map fun b => ⟨b, 0, none⟩, c, by rw [hr1, hrow, hsucc]; simp [Row.val]⟩
theorem Nodes.col_pos (hN : Nodes R0 n K b succ) {k i u : Nat} (hT : Tj w0 w R0 E (n + K) b s) (hk : k < K) (hu : (succ (n + k))[i]? = some u) :
    ∃ g c, w.cell? ⟨b 4, k, none⟩ = some (.slice (some ⟨g, 0, none⟩) (succ (n + k)).length c) ∧ w.cell? ⟨g, i, none⟩ = some (i32 u) ∧ (R0 (103 + 4 * k)).blk = some g := by
  obtain ⟨p, c, hrow⟩ := hN.ws k hk
  have hr1 : w.cell? ⟨b 4, k, none⟩ = some (R0 (103 + 4 * k)).val := hT.cell (i := 4) (by omega) (by rw [hN.r4]) (by rw [hN.r4]; exact tab_get hk)
  cases p with
  | none =>
    obtain ⟨R, h, _, hR⟩ := hT
    have hok := h.ok (103 + 4 * k)
    rw [hR _ (by omega), hrow] at hok
    rcases hok.2 with ⟨_, hn⟩ | ⟨g, cap, cur, hv, _⟩
    · have : succ (n + k) = [] := List.length_eq_zero_iff.1 hn
      rw [this] at hu; cases hu
    · simp [Row.val] at hv
  | some g =>
    refine ⟨g, c, ?_, hT.cell (i := 103 + 4 * k) (by omega) (by rw [hrow]) (by rw [hrow]; simp [hu]), by rw [hrow]⟩
    rw [hr1, hrow]; simp [Row.val]
theorem Nodes.col_len (hN : Nodes R0 n K b succ) {k : Nat} (hT : Tj w0 w R0 E (n + K) b s) (hk : k < K) :
    ∃ p c, w.cell? ⟨b 4, k, none⟩ = some (.slice p (succ (n + k)).length c) := by
  obtain ⟨p, c, hrow⟩ := hN.ws k hk
  have hr1 : w.cell? ⟨b 4, k, none⟩ = some (R0 (103 + 4 * k)).val := hT.cell (i := 4) (by omega) (by rw [hN.r4]) (by rw [hN.r4]; exact tab_get hk)
  exact ⟨_, c, by rw [hr1, hrow]; rfl⟩

set_option maxRecDepth 100000 in
set_option maxHeartbeats 1600000 in
theorem next_tx (hg : Gs R0 n K G b gx st) (hN : Nodes R0 n K b succ) (hT : Tj w0 w R0 E (n + K) b s) {B NB v i u m c : Nat} {cs : List (Nat × Nat)} {g o : Nat} (hB : R0 21 = ⟨some B, 1, 44, 1, 1, [.pointer (some ⟨G, 0, none⟩)]⟩) (hNB : R0 22 = ⟨some NB, 1, 21, 1, 1, [i32 n]⟩)
    (hs : s.calls = (v, i) :: cs) (hc : w.cell? ⟨b 12, 0, none⟩ = some (.slice (some ⟨g, 0, none⟩) m c)) (ho : o = 2 * cs.length) (hv : v < n) (hn : n + K ≤ 1000) (hu : (succ v)[i]? = some u) :
    Calls Yba.prog 27 #[.pointer (some ⟨g, o, none⟩), .pointer (some ⟨NB, 0, none⟩), .pointer (some ⟨B, 0, none⟩)] w fun e w' => e = .returned (.tuple #[i32 u, .bool true]) ∧ Tj w0 w' R0 E (n + K) b { s with calls := (v, i + 1) :: cs } ∧ w'.cell? ⟨b 12, 0, none⟩ = some (.slice (some ⟨g, 0, none⟩) m c) := by
  obtain ⟨g', c', hc', c0, c1, f1, hset, hne, _, _, hkeep⟩ := hT.top hs
  rw [hc] at hc'
  obtain ⟨rfl, hmm, rfl⟩ : g = g' ∧ m = cs.length + 1 ∧ c = c' := by simp at hc'; exact ⟨hc'.1, hc'.2.1, hc'.2.2⟩
  subst ho
  obtain ⟨gr, cr, u', hr1, hr2, rfl, hrb⟩ := hN.row_pos hT hv hu
  have hil : i < (succ v).length := (List.getElem?_eq_some_iff.1 hu).1
  have hsl := hN.len v (by omega)
  have hub := hN.bd v (by omega) _ (List.mem_of_getElem? hu)
  have cB : w.cell? ⟨B, 0, none⟩ = some (.pointer (some ⟨G, 0, none⟩)) := hT.cell (i := 21) (by omega) (by rw [hB]) (by rw [hB]; rfl)
  have cN : w.cell? ⟨NB, 0, none⟩ = some (i32 n) := hT.cell (i := 22) (by omega) (by rw [hNB]) (by rw [hNB]; rfl)
  have cG : w.cell? ⟨G, 0, none⟩ = some (.slice (some ⟨b 1, 0, none⟩) n n) := hT.cell (i := 0) (by omega) (by rw [hg.g0]) (by rw [hg.g0]; exact hg.x0)
  have n1 : g ≠ B := hne 21 _ (by omega) (by rw [hB])
  have n2 : g ≠ NB := hne 22 _ (by omega) (by rw [hNB])
  have n3 : g ≠ G := hne 0 _ (by omega) (by rw [hg.g0])
  have n4 : g ≠ b 1 := hne 1 _ (by omega) (by rw [hN.r1])
  have n5 : g ≠ gr := hne _ _ (by omega) hrb
  have HT : Hid (Tj w0 (w.setCell ⟨g, 2 * cs.length + 1, none⟩ (.int .i32 ((i : Int) + 1))) R0 E (n + K) b { s with calls := (v, i + 1) :: cs } ∧ (w.setCell ⟨g, 2 * cs.length + 1, none⟩ (.int .i32 ((i : Int) + 1))).cell? ⟨b 12, 0, none⟩ = some (.slice (some ⟨g, 0, none⟩) m c)) := ⟨hset (i + 1), by rw [hmm]; exact hkeep (i + 1)⟩
  clear hset hne hkeep hmm hrb hN hg hT hc hc' hB hNB hu
  have a1 : (v : Int) < (n : Int) := by omega
  have a2 : (0 : Int) ≤ (v : Int) := by omega
  have a3 : (i : Int) < ((succ v).length : Int) := by omega
  have a4 : (0 : Int) ≤ (i : Int) := by omega
  have a5 : IntKind.i32.wrap ((i : Int) + 1) = (i : Int) + 1 := by rw [IntKind.wrap_i32]; omega
  have a6 : IntKind.i32.wrap (((i : Int) + 1) - 1) = (i : Int) := by rw [IntKind.wrap_i32]; omega
  have a7 : IntKind.i32.wrap ((n : Int) + (u' : Int)) = (n : Int) + (u' : Int) := by rw [IntKind.wrap_i32]; omega
  have a8 : IntKind.i64.wrap (i : Int) = (i : Int) := by rw [IntKind.wrap_i64]; omega
  generalize (succ v).length = L at *
  generalize 2 * cs.length = o at *
  go_enter Yba.func27, Yba.ntmps27
  go_wp2_with fail
  go_region
  go_wp2_with fail
  go_region
  go_wp2_with fail
  go_region
  go_wp2_with fail
  go_ret2
  exact ⟨rfl, by first | exact HT.out.1.drew.drew | exact HT.out.1.drew.drew.drew, HT.out.2⟩

set_option maxRecDepth 100000 in
set_option maxHeartbeats 1600000 in
theorem next_txEnd (hg : Gs R0 n K G b gx st) (hN : Nodes R0 n K b succ) (hT : Tj w0 w R0 E (n + K) b s) {B NB v i m c : Nat} {cs : List (Nat × Nat)} {g o : Nat} (hB : R0 21 = ⟨some B, 1, 44, 1, 1, [.pointer (some ⟨G, 0, none⟩)]⟩) (hNB : R0 22 = ⟨some NB, 1, 21, 1, 1, [i32 n]⟩)
    (hs : s.calls = (v, i) :: cs) (hc : w.cell? ⟨b 12, 0, none⟩ = some (.slice (some ⟨g, 0, none⟩) m c)) (ho : o = 2 * cs.length) (hv : v < n) (hi : i ≤ 1000000) (hu : (succ v)[i]? = none) :
    Calls Yba.prog 27 #[.pointer (some ⟨g, o, none⟩), .pointer (some ⟨NB, 0, none⟩), .pointer (some ⟨B, 0, none⟩)] w fun e w' => e = .returned (.tuple #[i32 0, .bool false]) ∧ Tj w0 w' R0 E (n + K) b s ∧ w'.cell? ⟨b 12, 0, none⟩ = some (.slice (some ⟨g, 0, none⟩) m c) := by
  obtain ⟨g', c', hc', c0, c1, f1, hset, hne, _, _, hkeep⟩ := hT.top hs
  rw [hc] at hc'
  obtain ⟨rfl, hmm, rfl⟩ : g = g' ∧ m = cs.length + 1 ∧ c = c' := by simp at hc'; exact ⟨hc'.1, hc'.2.1, hc'.2.2⟩
  subst ho
  obtain ⟨pr, cr, hr1⟩ := hN.row_len hT hv
  have hil : (succ v).length ≤ i := List.getElem?_eq_none_iff.1 hu
  have cB : w.cell? ⟨B, 0, none⟩ = some (.pointer (some ⟨G, 0, none⟩)) := hT.cell (i := 21) (by omega) (by rw [hB]) (by rw [hB]; rfl)
  have cN : w.cell? ⟨NB, 0, none⟩ = some (i32 n) := hT.cell (i := 22) (by omega) (by rw [hNB]) (by rw [hNB]; rfl)
  have cG : w.cell? ⟨G, 0, none⟩ = some (.slice (some ⟨b 1, 0, none⟩) n n) := hT.cell (i := 0) (by omega) (by rw [hg.g0]) (by rw [hg.g0]; exact hg.x0)
  have HT : Hid (Tj w0 w R0 E (n + K) b s ∧ w.cell? ⟨b 12, 0, none⟩ = some (.slice (some ⟨g, 0, none⟩) m c)) := ⟨hT, hc⟩
  clear hset hne hkeep hmm hN hg hT hc hc' hB hNB hu f1
  have a1 : (v : Int) < (n : Int) := by omega
  have a2 : (0 : Int) ≤ (v : Int) := by omega
  have a3 : ¬ (i : Int) < ((succ v).length : Int) := by omega
  have a8 : IntKind.i64.wrap (i : Int) = (i : Int) := by rw [IntKind.wrap_i64]; omega
  generalize (succ v).length = L at *
  generalize 2 * cs.length = o at *
  go_enter Yba.func27, Yba.ntmps27
  go_wp2_with fail
  go_region
  go_wp2_with fail
  go_region
  go_wp2_with fail
  go_ret2
  exact ⟨rfl, by first | exact HT.out.1.drew.drew | exact HT.out.1.drew.drew.drew, HT.out.2⟩

set_option maxRecDepth 100000 in
set_option maxHeartbeats 1600000 in
theorem next_key (hg : Gs R0 n K G b gx st) (hN : Nodes R0 n K b succ) (hT : Tj w0 w R0 E (n + K) b s) {B NB v i u m c : Nat} {cs : List (Nat × Nat)} {g o : Nat} (hB : R0 21 = ⟨some B, 1, 44, 1, 1, [.pointer (some ⟨G, 0, none⟩)]⟩) (hNB : R0 22 = ⟨some NB, 1, 21, 1, 1, [i32 n]⟩)
    (hs : s.calls = (v, i) :: cs) (hc : w.cell? ⟨b 12, 0, none⟩ = some (.slice (some ⟨g, 0, none⟩) m c)) (ho : o = 2 * cs.length) (hv : n ≤ v) (hvK : v < n + K) (hn : n + K ≤ 1000) (hu : (succ v)[i]? = some u) :
    Calls Yba.prog 27 #[.pointer (some ⟨g, o, none⟩), .pointer (some ⟨NB, 0, none⟩), .pointer (some ⟨B, 0, none⟩)] w fun e w' => e = .returned (.tuple #[i32 u, .bool true]) ∧ Tj w0 w' R0 E (n + K) b { s with calls := (v, i + 1) :: cs } ∧ w'.cell? ⟨b 12, 0, none⟩ = some (.slice (some ⟨g, 0, none⟩) m c) := by
  obtain ⟨g', c', hc', c0, c1, f1, hset, hne, _, _, hkeep⟩ := hT.top hs
  rw [hc] at hc'
  obtain ⟨rfl, hmm, rfl⟩ : g = g' ∧ m = cs.length + 1 ∧ c = c' := by simp at hc'; exact ⟨hc'.1, hc'.2.1, hc'.2.2⟩
  subst ho
  obtain ⟨k, rfl⟩ : ∃ k, v = n + k := ⟨v - n, by omega⟩
  obtain ⟨gr, cr, hr1, hr2, hrb⟩ := hN.col_pos hT (by omega) hu
  have hil : i < (succ (n + k)).length := (List.getElem?_eq_some_iff.1 hu).1
  have hsl := hN.len (n + k) (by omega)
  have hub := hN.bd (n + k) (by omega) _ (List.mem_of_getElem? hu)
  have cB : w.cell? ⟨B, 0, none⟩ = some (.pointer (some ⟨G, 0, none⟩)) := hT.cell (i := 21) (by omega) (by rw [hB]) (by rw [hB]; rfl)
  have cN : w.cell? ⟨NB, 0, none⟩ = some (i32 n) := hT.cell (i := 22) (by omega) (by rw [hNB]) (by rw [hNB]; rfl)
  have cG : w.cell? ⟨G, 4, none⟩ = some (.slice (some ⟨b 4, 0, none⟩) K K) := hT.cell (i := 0) (by omega) (by rw [hg.g0]) (by rw [hg.g0]; exact hg.x4)
  have n1 : g ≠ B := hne 21 _ (by omega) (by rw [hB])
  have n2 : g ≠ NB := hne 22 _ (by omega) (by rw [hNB])
  have n3 : g ≠ G := hne 0 _ (by omega) (by rw [hg.g0])
  have n4 : g ≠ b 4 := hne 4 _ (by omega) (by rw [hN.r4])
  have n5 : g ≠ gr := hne _ _ (by omega) hrb
  have HT : Hid (Tj w0 (w.setCell ⟨g, 2 * cs.length + 1, none⟩ (.int .i32 ((i : Int) + 1))) R0 E (n + K) b { s with calls := (n + k, i + 1) :: cs } ∧ (w.setCell ⟨g, 2 * cs.length + 1, none⟩ (.int .i32 ((i : Int) + 1))).cell? ⟨b 12, 0, none⟩ = some (.slice (some ⟨g, 0, none⟩) m c)) := ⟨hset (i + 1), by rw [hmm]; exact hkeep (i + 1)⟩
  clear hset hne hkeep hmm hrb hN hg hT hc hc' hB hNB hu
  have a1 : ¬ ((n + k : Nat) : Int) < (n : Int) := by omega
  have a2 : (k : Int) < (K : Int) := by omega
  have a9 : IntKind.i32.wrap (((n + k : Nat) : Int) - (n : Int)) = (k : Int) := by rw [IntKind.wrap_i32]; omega
  have a10 : IntKind.i32.wrap (((n : Int) + (k : Int)) - (n : Int)) = (k : Int) := by rw [IntKind.wrap_i32]; omega
  have a3 : (i : Int) < ((succ (n + k)).length : Int) := by omega
  have a4 : (0 : Int) ≤ (i : Int) := by omega
  have a5 : IntKind.i32.wrap ((i : Int) + 1) = (i : Int) + 1 := by rw [IntKind.wrap_i32]; omega
  have a6 : IntKind.i32.wrap (((i : Int) + 1) - 1) = (i : Int) := by rw [IntKind.wrap_i32]; omega
  have a8 : IntKind.i64.wrap (i : Int) = (i : Int) := by rw [IntKind.wrap_i64]; omega
  generalize (succ (n + k)).length = L at *
  generalize 2 * cs.length = o at *
  go_enter Yba.func27, Yba.ntmps27
  go_wp2_with fail
  go_region
  go_wp2_with fail
  go_region
  go_wp2_with fail
  go_ret2
  exact ⟨rfl, by first | exact HT.out.1.drew.drew | exact HT.out.1.drew.drew.drew, HT.out.2⟩

set_option maxRecDepth 100000 in
set_option maxHeartbeats 1600000 in
theorem next_keyEnd (hg : Gs R0 n K G b gx st) (hN : Nodes R0 n K b succ) (hT : Tj w0 w R0 E (n + K) b s) {B NB v i m c : Nat} {cs : List (Nat × Nat)} {g o : Nat} (hB : R0 21 = ⟨some B, 1, 44, 1, 1, [.pointer (some ⟨G, 0, none⟩)]⟩) (hNB : R0 22 = ⟨some NB, 1, 21, 1, 1, [i32 n]⟩)
    (hs : s.calls = (v, i) :: cs) (hc : w.cell? ⟨b 12, 0, none⟩ = some (.slice (some ⟨g, 0, none⟩) m c)) (ho : o = 2 * cs.length) (hv : n ≤ v) (hvK : v < n + K) (hn : n + K ≤ 1000) (hu : (succ v)[i]? = none) (hi : i ≤ 1000000) :
    Calls Yba.prog 27 #[.pointer (some ⟨g, o, none⟩), .pointer (some ⟨NB, 0, none⟩), .pointer (some ⟨B, 0, none⟩)] w fun e w' => e = .returned (.tuple #[i32 0, .bool false]) ∧ Tj w0 w' R0 E (n + K) b s ∧ w'.cell? ⟨b 12, 0, none⟩ = some (.slice (some ⟨g, 0, none⟩) m c) := by
  obtain ⟨g', c', hc', c0, c1, f1, hset, hne, _, _, hkeep⟩ := hT.top hs
  rw [hc] at hc'
  obtain ⟨rfl, hmm, rfl⟩ : g = g' ∧ m = cs.length + 1 ∧ c = c' := by simp at hc'; exact ⟨hc'.1, hc'.2.1, hc'.2.2⟩
  subst ho
  obtain ⟨k, rfl⟩ : ∃ k, v = n + k := ⟨v - n, by omega⟩
  obtain ⟨pr, cr, hr1⟩ := hN.col_len (k := k) hT (by omega)
  have hil : (succ (n + k)).length ≤ i := List.getElem?_eq_none_iff.1 hu
  have cB : w.cell? ⟨B, 0, none⟩ = some (.pointer (some ⟨G, 0, none⟩)) := hT.cell (i := 21) (by omega) (by rw [hB]) (by rw [hB]; rfl)
  have cN : w.cell? ⟨NB, 0, none⟩ = some (i32 n) := hT.cell (i := 22) (by omega) (by rw [hNB]) (by rw [hNB]; rfl)
  have cG : w.cell? ⟨G, 4, none⟩ = some (.slice (some ⟨b 4, 0, none⟩) K K) := hT.cell (i := 0) (by omega) (by rw [hg.g0]) (by rw [hg.g0]; exact hg.x4)
  have HT : Hid (Tj w0 w R0 E (n + K) b s ∧ w.cell? ⟨b 12, 0, none⟩ = some (.slice (some ⟨g, 0, none⟩) m c)) := ⟨hT, hc⟩
  clear hset hne hkeep hmm hN hg hT hc hc' hB hNB hu f1
  have a1 : ¬ ((n + k : Nat) : Int) < (n : Int) := by omega
  have a2 : (k : Int) < (K : Int) := by omega
  have a9 : IntKind.i32.wrap (((n + k : Nat) : Int) - (n : Int)) = (k : Int) := by rw [IntKind.wrap_i32]; omega
  have a10 : IntKind.i32.wrap (((n : Int) + (k : Int)) - (n : Int)) = (k : Int) := by rw [IntKind.wrap_i32]; omega
  have a3 : ¬ (i : Int) < ((succ (n + k)).length : Int) := by omega
  have a8 : IntKind.i64.wrap (i : Int) = (i : Int) := by rw [IntKind.wrap_i64]; omega
  generalize (succ (n + k)).length = L at *
  generalize 2 * cs.length = o at *
  go_enter Yba.func27, Yba.ntmps27
  go_wp2_with fail
  go_region
  go_wp2_with fail
  go_region
  go_wp2_with fail
  go_ret2
  exact ⟨rfl, by first | exact HT.out.1.drew.drew | exact HT.out.1.drew.drew.drew, HT.out.2⟩
end
end Go.Proofs.Ybulkajny
