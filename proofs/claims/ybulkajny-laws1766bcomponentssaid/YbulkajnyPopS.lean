import Derived.Test.YbulkajnyCyc0
import Derived.Test.YbulkajnyHeapSort
namespace Go.Proofs.Ybulkajny
open Go.RowKit Go.Sort

theorem info22 : (Yba.prog.info? 22).map (fun i => (i.zero, i.size, i.bytes)) = some (some (.slice none 0 0), 1, 24) := by kernel_rfl

/-- A slice cut behind. -/
theorem slice_cut22 (g m c k : Nat) (hk : k ≤ c) (w' : World) : (Instr.sliceAt 22 (.slice (some ⟨g, 0, none⟩) m c) none (some (.int .i64 (k : Int))) none).run Yba.prog w' = .ok (.slice (some ⟨g, 0, none⟩) k c) w' := by
  have hu : Yba.prog.underlying 22 = some (.slice (Yba.prog.elem 22)) := by kernel_rfl
  have hz : ∀ w, (sizeOf (Yba.prog.elem 22)).run Yba.prog w = .ok 1 w := fun w => by kernel_rfl
  rw [run_sliceAt_slice (h := hu), run_slice_h (ht := hu) (h0 := by omega) (h2 := by omega), hz]
  show Result.ok (sliced _ 0 _ c 1) w' = _
  congr 1
  simp [sliced, Addr.add]
theorem slice_cut78 (g m c k : Nat) (hk : k ≤ c) (w' : World) : (Instr.sliceAt 78 (.slice (some ⟨g, 0, none⟩) m c) none (some (.int .i64 (k : Int))) none).run Yba.prog w' = .ok (.slice (some ⟨g, 0, none⟩) k c) w' := by
  have hu : Yba.prog.underlying 78 = some (.slice (Yba.prog.elem 78)) := by kernel_rfl
  have hz : ∀ w, (sizeOf (Yba.prog.elem 78)).run Yba.prog w = .ok 2 w := fun w => by kernel_rfl
  rw [run_sliceAt_slice (h := hu), run_slice_h (ht := hu) (h0 := by omega) (h2 := by omega), hz]
  show Result.ok (sliced _ 0 _ c 2) w' = _
  congr 1
  simp [sliced, Addr.add]

section
variable {w0 w w' : World} {R0 : Nat → Row} {E : Option (Nat × Obj)} {N : Nat} {b : Nat → Nat} {s : TS}

theorem Ts.put {R : Nat → Row} (ht : Ts R N b s) {i : Nat} (hi : ¬ (8 ≤ i ∧ i ≤ 17)) (r : Row) : Ts (put R i r) N b s := by
  refine ⟨?_, ?_, ?_, ?_, ?_, ?_, ?_, ?_, ?_, ?_⟩
  · rw [put_ne (by omega)]; exact ht.idx
  · rw [put_ne (by omega)]; exact ht.low
  · rw [put_ne (by omega)]; exact ht.on
  · rw [put_ne (by omega)]; exact ht.ctr
  · rw [put_ne (by omega), put_ne (by omega)]; exact ht.cbox
  · rw [put_ne (by omega), put_ne (by omega)]; exact ht.sbox
  · rw [put_ne (by omega), put_ne (by omega)]; exact ht.ebox
  · rw [put_ne (by omega)]; exact ht.calls
  · rw [put_ne (by omega)]; exact ht.stk
  · rw [put_ne (by omega)]; exact ht.seen

/-- The top of the stack. -/
theorem Tj.stkTop (h : Tj w0 w R0 E N b s) {x : Nat} {rest : List Nat} (hs : s.stk = x :: rest) :
    ∃ g c, w.cell? ⟨b 13, 0, none⟩ = some (.slice (some ⟨g, 0, none⟩) (rest.length + 1) c) ∧ w.cell? ⟨g, rest.length, none⟩ = some (i32 x) ∧ rest.length + 1 ≤ c ∧
      Tj w0 (w.setCell ⟨b 13, 0, none⟩ (.slice (some ⟨g, 0, none⟩) rest.length c)) R0 E N b { s with stk := rest } := by
  obtain ⟨R, h, ht, hR⟩ := h
  obtain ⟨p, c, hrow⟩ := ht.stk
  cases p with
  | none =>
    have hok := h.ok 16
    rcases hok.2 with ⟨_, hn⟩ | ⟨g, cap, cur, hv, _⟩
    · rw [hrow, hs] at hn; simp at hn
    · rw [hrow] at hv; simp [Row.val] at hv
  | some g =>
    have hb : (R 16).blk = some g := by rw [hrow]
    have hx : (R 16).xs = rest.reverse.map i32 ++ [i32 x] := by rw [hrow, hs]; simp
    have hle : rest.length + 1 ≤ c := by
      obtain ⟨cur, _, _, h3, _⟩ := (h.ok 16).shape hb
      rw [hrow, hs] at h3
      simpa using h3
    have hcut := h.cut (i := 16) (m := rest.length) (by rw [hrow, hs]; simp)
    refine ⟨g, c, h.cell (i := 13) (by rw [ht.sbox]) (by rw [ht.sbox, hrow, hs]; rfl), h.cell (i := 16) hb ?_, hle, ?_⟩
    · rw [hx, List.getElem?_append_right (by simp)]; simp
    · have e : ({ R 16 with len := rest.length, xs := (R 16).xs.take (rest.length * (R 16).sz) } : Row) = ⟨some g, c, 21, 1, rest.length, rest.reverse.map i32⟩ := by
        rw [hx, hrow]
        simp
      rw [e] at hcut
      exact Tj.boxStk ht hR rfl rfl hcut

/-- The frames' row is cut by one. -/
theorem Tj.popCall (h : Tj w0 w R0 E N b s) {v i : Nat} {cs : List (Nat × Nat)} (hs : s.calls = (v, i) :: cs) {g m c : Nat} (hc : w.cell? ⟨b 12, 0, none⟩ = some (.slice (some ⟨g, 0, none⟩) m c)) :
    m = cs.length + 1 ∧ cs.length + 1 ≤ c ∧ Tj w0 (w.setCell ⟨b 12, 0, none⟩ (.slice (some ⟨g, 0, none⟩) cs.length c)) R0 E N b { s with calls := cs } := by
  obtain ⟨R, h, ht, hR⟩ := h
  obtain ⟨p, c', hrow⟩ := ht.calls
  have hcell : w.cell? ⟨b 12, 0, none⟩ = some (R 15).val := h.cell (i := 12) (by rw [ht.cbox]) (by rw [ht.cbox]; rfl)
  rw [hc, hrow, hs] at hcell
  cases p with
  | none => simp [Row.val] at hcell
  | some g' =>
    simp [Row.val] at hcell
    obtain ⟨rfl, rfl, rfl⟩ := hcell
    have hb : (R 15).blk = some g := by rw [hrow]
    have hle : cs.length + 1 ≤ c := by
      obtain ⟨cur, _, _, h3, _⟩ := (h.ok 15).shape hb
      rw [hrow, hs] at h3
      simpa using h3
    have hcut := h.cut (i := 15) (m := cs.length) (by rw [hrow, hs]; simp)
    have hl : (cs.reverse.flatMap (fun f => [i32 f.1, i32 f.2])).length = cs.length * 2 := by rw [flat_length, List.length_reverse]; omega
    have e : ({ R 15 with len := cs.length, xs := (R 15).xs.take (cs.length * (R 15).sz) } : Row) = ⟨some g, c, 76, 2, cs.length, cs.reverse.flatMap (fun f => [i32 f.1, i32 f.2])⟩ := by
      rw [hrow, hs]
      simp only [Row.mk.injEq, true_and, List.reverse_cons, List.flatMap_append]
      rw [List.take_append_of_le_length (by omega), List.take_of_length_le (by omega)]
    rw [e] at hcut
    exact ⟨rfl, hle, Tj.boxCalls ht hR rfl rfl hcut⟩

/-- A row outside of Tarjan's is turned. -/
theorem Tj.turnRow {R : Nat → Row} (ht : Ts R N b s) (hR : ∀ i, ¬ (8 ≤ i ∧ i ≤ 17) → R i = R0 i) {i : Nat} (hi : ¬ (8 ≤ i ∧ i ≤ 17)) {r : Row} (h : Fam w0 w (put R i r) E) : Tj w0 w (put R0 i r) E N b s :=
  ⟨_, h, ht.put hi r, fun j hj => by
    by_cases e : j = i
    · subst e; rw [put_eq, put_eq]
    · rw [put_ne e, put_ne e]; exact hR j hj⟩
theorem Tj.dropRow (h : Tj w0 w R0 E N b s) {i : Nat} (hi : ¬ (8 ≤ i ∧ i ≤ 17)) (t : TypeId) (sz : Nat) : Tj w0 w (Ybulkajny.put R0 i ⟨none, 0, t, sz, 0, []⟩) E N b s := by
  obtain ⟨R, h, ht, hR⟩ := h
  exact Tj.turnRow ht hR hi (h.nilRow i t sz)
theorem Tj.row (h : Tj w0 w R0 E N b s) {i : Nat} (hi : ¬ (8 ≤ i ∧ i ≤ 17)) : (R0 i).ok w0.heap.size w := by
  obtain ⟨R, h, _, hR⟩ := h
  rw [← hR i hi]; exact h.ok i
/-- Row i goes to place j. -/
theorem Tj.moveRow (h : Tj w0 w R0 E N b s) {i j : Nat} (hi : ¬ (8 ≤ i ∧ i ≤ 17)) (hj : ¬ (8 ≤ j ∧ j ≤ 17)) (hij : i ≠ j) : Tj w0 w (Ybulkajny.put (Ybulkajny.put R0 j (R0 i)) i dead) E N b s := by
  obtain ⟨R, h, ht, hR⟩ := h
  refine ⟨_, h.move hij, (ht.put hj _).put hi _, fun k hk => ?_⟩
  by_cases e : k = i
  · subst e; rw [put_eq, put_eq]
  · rw [put_ne e, put_ne e]
    by_cases e' : k = j
    · subst e'; rw [put_eq, put_eq, hR i hi]
    · rw [put_ne e', put_ne e']; exact hR k hk

theorem srt_nat (l : List Nat) : lawS1766AHeapSort.srt (l.map (fun x : Nat => (x : Int))) = (sortN l).map (fun x : Nat => (x : Int)) := by
  unfold lawS1766AHeapSort.srt sortN
  refine (List.map_mergeSort (fun a _ b _ => ?_)).symm
  simp

/-- The sort of a row. -/
theorem Tj.sorted (h : Tj w0 w R0 E N b s) {i g c : Nat} {l : List Nat} (hi : ¬ (8 ≤ i ∧ i ≤ 17)) (hrow : R0 i = ⟨some g, c, 21, 1, l.length, l.map i32⟩) (hl : l.length ≤ 1024) :
    Calls Yba.prog 10 #[.slice (some ⟨g, 0, none⟩) l.length c] w fun e w' => e = .returned (.tuple #[]) ∧ Tj w0 w' (Ybulkajny.put R0 i ⟨some g, c, 21, 1, (sortN l).length, (sortN l).map i32⟩) E N b s := by
  obtain ⟨R, h, ht, hR⟩ := h
  have hRi : R i = _ := (hR i hi).trans hrow
  obtain ⟨cur, k1, k2, k3, k4, k5, k6⟩ := (h.ok i).shape (b := g) (by rw [hRi])
  rw [hRi] at k1 k3 k4 k5 k6
  have hra : RowAt e32 21 w g c (l.map (fun x : Nat => (x : Int))).toArray := by
    refine ⟨cur, k1, by simpa using k5, by simpa using k3, k4, ?_⟩
    have e : (l.map (fun x : Nat => (x : Int))).toArray.size = l.length * 1 := by simp
    rw [e, k6]
    simp [e32]
  refine (lawS1766AHeapSort.sort_any g c l.length (l.map (fun x : Nat => (x : Int))) w (by simp) hl hra).mono ?_
  rintro e w' ⟨rfl, hr', ho⟩
  refine ⟨rfl, Tj.turnRow ht hR hi (h.turn i _ (ho.mono (fun k _ hk => by rw [hRi, hk])) ?_ (fun x hx => .inl (by rw [hRi]; exact hx)))⟩
  obtain ⟨cur', q1, q2, q3, q4, q5⟩ := hr'
  rw [srt_nat] at q3 q5
  refine Row.ok.of_shape (b := g) (cur := cur') rfl q1 k2 (by simpa using q3) q4 (by simpa using q2) ?_
  show List.take ((sortN l).length * 1) _ = (sortN l).map i32
  have e : ((sortN l).map (fun x : Nat => (x : Int))).toArray.size = (sortN l).length * 1 := by simp
  rw [e] at q5
  rw [q5]
  simp [e32]
end
end Go.Proofs.Ybulkajny
