import Derived.Test.YbulkakawSched
namespace Go.Proofs.Ybulkakaw
open Go.RowKit Go.Sort
variable {base : Nat} {B : Nat → Nat} {m : Nat} {due : Nat → Int} {run : Nat → Bool} {idx : Nat → Int} {K g c : Nat} {xs : Array Nat} {w w' : World} {p : Option Addr}

/-- The queue holds exactly the tasks that have a due time and do not run, each at its place, the soonest on top. -/
structure Inv (base : Nat) (B : Nat → Nat) (m : Nat) (due : Nat → Int) (run : Nat → Bool) (idx : Nat → Int) (K : Nat) (p : Option Addr) (c : Nat) (xs : Array Nat) (w : World) : Prop where
  q : Q base B m due run idx K p c xs w
  ix : ∀ k, k < xs.size → idx xs[k]! = (k : Int)
  nd : xs.toList.Nodup
  hp : IsHeap (ld due) xs.size xs
  mem : ∀ t, t ∈ xs.toList ↔ t < m ∧ due t ≠ 0 ∧ run t = false
  out : ∀ t, t < m → t ∉ xs.toList → idx t = -1

def Has (base : Nat) (B : Nat → Nat) (m : Nat) (due : Nat → Int) (run : Nat → Bool) (K : Nat) (w : World) : Prop := ∃ idx p c xs, Inv base B m due run idx K p c xs w

/-- Blocks that the queue has nothing to do with. -/
def Free (Z : Nat → Prop) (w : World) : Prop := ∀ k, Z k → ∃ cs t, w.heap[k]? = some (.cells cs t (0, 0)) ∧ t ≠ 29 ∧ t ≠ 47 ∧ t ≠ 53

theorem Inv.count (h : Inv base B m due run idx K p c xs w) : xs.size = ((List.range m).filter (fun t => decide (due t ≠ 0 ∧ run t = false))).length := by
  have : xs.toList.Perm ((List.range m).filter (fun t => decide (due t ≠ 0 ∧ run t = false))) := by
    rw [List.perm_ext_iff_of_nodup h.nd (List.Nodup.sublist List.filter_sublist List.nodup_range)]
    intro t
    rw [h.mem t]
    simp
  simpa using this.length_eq
theorem Inv.size_le (h : Inv base B m due run idx K p c xs w) : xs.size ≤ m := by
  rw [h.count]
  exact Nat.le_trans (List.length_filter_le _ _) (by simp)
theorem Q.only0 (h : Q base B m due run idx K p c xs w) (o1 : Only (fun _ => False) w w') : Q base B m due run idx K p c xs w' :=
  ⟨h.toTs.only o1 (fun _ _ h => h), o1.at_block h.box (fun h => h), owns_other h.own (fun k _ hk => o1.block k (Array.getElem?_eq_some_iff.1 hk).1 (fun h => h)), h.mem, h.hK⟩
theorem Inv.only0 (h : Inv base B m due run idx K p c xs w) (o1 : Only (fun _ => False) w w') : Inv base B m due run idx K p c xs w' := ⟨h.q.only0 o1, h.ix, h.nd, h.hp, h.mem, h.out⟩
theorem Has.only0 (h : Has base B m due run K w) (o1 : Only (fun _ => False) w w') : Has base B m due run K w' := by
  obtain ⟨idx, p, c, xs, h⟩ := h
  exact ⟨idx, p, c, xs, h.only0 o1⟩
theorem Free.only0 {Z : Nat → Prop} (h : Free Z w) (o1 : Only (fun _ => False) w w') : Free Z w' := fun k hk => by
  obtain ⟨cs, t, hb, hr⟩ := h k hk
  exact ⟨cs, t, o1.at_block hb (fun h => h), hr⟩
theorem Free.atK {Z : Nat → Prop} (h : Free Z w) (hq : Q base B m due run idx K p c xs w) : ¬ Z K := fun hk => by
  obtain ⟨cs, t, hb, h1, h2, h3⟩ := h K hk
  rw [hq.box] at hb
  cases hb
  exact h1 rfl
theorem Free.atB {Z : Nat → Prop} (h : Free Z w) (hq : Ts base B m due run idx w) (j : Nat) (hj : j < m) : ¬ Z (B j) := fun hk => by
  obtain ⟨cs, t, hb, h1, h2, h3⟩ := h _ hk
  rw [hq.task j hj] at hb
  cases hb
  exact h2 rfl
theorem Free.atG {Z : Nat → Prop} (h : Free Z w) (hq : Q base B m due run idx K p c xs w) (k : Nat) (hk : (Value.slice p xs.size c).ownBlock = some k) : ¬ Z k := fun hz => by
  obtain ⟨cs, t, hb, h1, h2, h3⟩ := h k hz
  obtain ⟨_, cur, hc⟩ := hq.block k hk
  rw [hc] at hb
  cases hb
  exact h3 rfl

theorem ne_upd {x t : Nat} {d : Int} (h : t ≠ x) : upd due x d t = due t := by simp [upd, h]
theorem eq_upd {x : Nat} {d : Int} : upd due x d x = d := by simp [upd]

theorem heap_congr {due' : Nat → Int} {n : Nat} (hn : n ≤ xs.size) (h : IsHeap (ld due) n xs) (he : ∀ t, t ∈ xs.toList → due' t = due t) : IsHeap (ld due') n xs := by
  intro i k hk hkn
  have := h i k hk hkn
  simp only [ld] at *
  rw [he _ (get_mem (by omega)), he _ (get_mem (by omega))]
  exact this

set_option maxRecDepth 100000 in
set_option maxHeartbeats 800000 in
theorem sched10 (H : Has base B m due run K w) (hm : m ≤ 1024) (x : Nat) (d : Int) (hx : x < m) (hd : due x = 0 ∨ d = 0) (Z : Nat → Prop) (hZ : Free Z w) :
    Calls Yba.prog 10 #[.pointer (some ⟨K, 2, none⟩), .pointer (some ⟨B x, 2, none⟩), tval d] w fun e w' => e = .returned (.tuple #[]) ∧ Has base B m (upd due x d) run K w' ∧ Only (fun k => base ≤ k ∧ ¬ Z k) w w' := by
  obtain ⟨idx, p, c, xs, h⟩ := H
  have tx := h.q.task x hx
  have c2 : w.cell? ⟨B x, 2, none⟩ = some (.int .u64 (tw (due x))) := cell_of_block tx rfl
  have c3 : w.cell? ⟨B x, 3, none⟩ = some (.int .i64 (te (due x))) := cell_of_block tx rfl
  have c4 : w.cell? ⟨B x, 4, none⟩ = some (.pointer none) := cell_of_block tx rfl
  have f2 := free_of_block (o := 2) tx
  have f3 := free_of_block (o := 3) tx
  have f4 := free_of_block (o := 4) tx
  have lx : B x < w.heap.size := (Array.getElem?_eq_some_iff.1 tx).1
  have b2 := set_block (o := 2) (v := .int .u64 (tw d)) tx rfl
  have b3 := set_block (o := 3) (v := .int .i64 (te d)) b2 rfl
  have b4 := set_block (o := 4) (v := .pointer none) b3 rfl
  have oS : Only (fun k => k = B x) w (((w.setCell ⟨B x, 2, none⟩ (.int .u64 (tw d))).setCell ⟨B x, 3, none⟩ (.int .i64 (te d))).setCell ⟨B x, 4, none⟩ (.pointer none)) :=
    ((only_setCell w ⟨B x, 2, none⟩ _).trans (only_setCell _ ⟨B x, 3, none⟩ _)).trans (only_setCell _ ⟨B x, 4, none⟩ _)
  have HU : Hid (∀ w1, Only (fun _ => False) (((w.setCell ⟨B x, 2, none⟩ (.int .u64 (tw d))).setCell ⟨B x, 3, none⟩ (.int .i64 (te d))).setCell ⟨B x, 4, none⟩ (.pointer none)) w1 →
      Calls Yba.prog 16 #[.pointer (some ⟨K, 2, none⟩), .pointer (some ⟨B x, 2, none⟩)] w1 fun e w' => e = .returned (.tuple #[]) ∧ Has base B m (upd due x d) run K w' ∧ Only (fun k => base ≤ k ∧ ¬ Z k) w w') := by
    intro w1 o1
    generalize (((w.setCell ⟨B x, 2, none⟩ (.int .u64 (tw d))).setCell ⟨B x, 3, none⟩ (.int .i64 (te d))).setCell ⟨B x, 4, none⟩ (.pointer none)) = w0 at *
    have q0 : Q base B m (upd due x d) run idx K p c xs w0 := by
      refine ⟨⟨fun t ht => ?_, h.q.inj, h.q.low⟩, oS.at_block h.q.box (Ne.symm (h.q.BK x hx)), owns_other h.q.own (fun k cs hk => oS.block k (Array.getElem?_eq_some_iff.1 hk).1 (fun e => ?_)), h.q.mem, h.q.hK⟩
      · by_cases ex : t = x
        · subst ex
          rw [b4, eq_upd]
          rfl
        · rw [oS.at_block (h.q.task t ht) (fun e => ex (h.q.inj _ _ ht hx e)), ne_upd ex]
      · rw [e, tx] at hk
        cases hk
    have q1 := q0.only0 o1
    have oA : Only (fun k => base ≤ k ∧ ¬ Z k) w w1 := (oS.mono (fun k _ e => by rw [e]; exact ⟨h.q.low x hx, hZ.atB h.q.toTs x hx⟩)).step o1 (fun _ _ hf => hf.elim)
    have hsz := h.size_le
    clear b2 b3 b4 oS o1 q0
    by_cases hxx : x ∈ xs.toList
    · have hdz : d = 0 := by
        rcases hd with hd | hd
        · exact absurd hd ((h.mem x).1 hxx).2.1
        · exact hd
      obtain ⟨i, hi, hxi⟩ := List.getElem_of_mem hxx
      have hi' : i < xs.size := by simpa using hi
      have hxe : xs[i]! = x := by rw [getElem!_pos xs i hi']; simpa using hxi
      subst hxe
      refine (update_rm q1 h.ix h.nd due h.hp i (xs.size - 1) (by omega) (by omega) (fun t ht => (ne_upd ht).symm) (by omega) (by rw [eq_upd]; exact hdz)).mono ?_
      rintro e w2 ⟨rfl, g, rfl, idx', xs', a1, a2, a3, a4, a5, a6, a7⟩
      have nd' : (xs[i]! :: xs'.toList).Nodup := a3.nodup_iff.1 h.nd
      refine ⟨rfl, ⟨idx', _, c, xs', a1.toQ, a2, (List.nodup_cons.1 nd').2, a4, fun t => ?_, fun t ht hn => ?_⟩, oA.step a7 ?_⟩
      · by_cases ex : t = xs[i]!
        · subst ex
          rw [eq_upd, hdz]
          constructor
          · intro hh; exact absurd hh (List.nodup_cons.1 nd').1
          · rintro ⟨_, hh, _⟩; exact absurd rfl hh
        · rw [ne_upd ex, ← h.mem t, a3.mem_iff]
          simp [ex]
      · by_cases ex : t = xs[i]!
        · rw [ex]; exact a5
        · have : t ∉ xs.toList := fun hh => hn (by rcases List.mem_cons.1 (a3.mem_iff.1 hh) with e | e; exact absurd e ex; exact e)
          rw [a6 t this]
          exact h.out t ht this
      · rintro k hk (rfl | rfl | ⟨t, ht, rfl⟩)
        · exact ⟨h.q.hK, hZ.atK h.q⟩
        · exact ⟨(h.q.block _ rfl).1, hZ.atG h.q _ rfl⟩
        · exact ⟨h.q.low t ht, hZ.atB h.q.toTs t ht⟩
    · have hix := h.out x hx hxx
      by_cases hno : d = 0 ∨ run x = true
      · refine (update_out q1 x hx (by rw [eq_upd]; exact hno) hix).mono ?_
        rintro e w2 ⟨rfl, o2⟩
        refine ⟨rfl, ⟨idx, p, c, xs, q1.only0 o2, h.ix, h.nd, heap_congr (Nat.le_refl _) h.hp (fun t ht => ne_upd (fun e => hxx (e ▸ ht))), fun t => ?_, h.out⟩, oA.step o2 (fun _ _ hf => hf.elim)⟩
        by_cases ex : t = x
        · subst ex
          rw [eq_upd]
          constructor
          · intro hh; exact absurd hh hxx
          · rintro ⟨_, h1, h2⟩
            rcases hno with hno | hno
            · exact absurd hno h1
            · rw [hno] at h2; cases h2
        · rw [ne_upd ex]
          exact h.mem t
      · have hd0 : d ≠ 0 := fun e => hno (.inl e)
        have hr0 : run x = false := by
          cases hr : run x with
          | false => rfl
          | true => exact absurd (.inr hr) hno
        refine (update_push q1 h.ix h.nd x xs.size hx hxx rfl (by omega) (by rw [eq_upd]; exact hd0) hr0 hix).mono ?_
        rintro e w2 ⟨rfl, g', c', idx', a1, a2, a3, a7⟩
        have hh := heap_push (swo_ld (upd due x d)) xs x (heap_congr (Nat.le_refl _) h.hp (fun t ht => ne_upd (fun e => hxx (e ▸ ht))))
        have hs : (heapUp (ld (upd due x d)) xs.size xs.size (xs.push x)).size = xs.size + 1 := by rw [size_heapUp]; simp
        refine ⟨rfl, ⟨idx', _, c', _, a1.toQ, fun k hk => a2 k (by omega), hh.2.nodup_iff.2 (List.nodup_cons.2 ⟨hxx, h.nd⟩), by rw [hs]; exact hh.1, fun t => ?_, fun t ht hn => ?_⟩, oA.step a7 ?_⟩
        · rw [hh.2.mem_iff]
          by_cases ex : t = x
          · subst ex
            rw [eq_upd]
            simp [hx, hd0, hr0]
          · rw [ne_upd ex, ← h.mem t]
            simp [ex]
        · have h1 : t ≠ x := fun e => hn (hh.2.mem_iff.2 (by simp [e]))
          have h2 : t ∉ xs.toList := fun e => hn (hh.2.mem_iff.2 (List.mem_cons_of_mem _ e))
          rw [a3 t h1 h2]
          exact h.out t ht h2
        · rintro k hk ⟨hb, ⟨t, ht, rfl⟩ | rfl | hg⟩
          · exact ⟨hb, hZ.atB h.q.toTs t ht⟩
          · exact ⟨hb, hZ.atK h.q⟩
          · exact ⟨hb, hZ.atG h.q _ hg⟩
  clear h tx b2 b3 b4 oS hZ hd
  unfold tval
  generalize tw d = X at *
  generalize te d = Y at *
  generalize B x = b at *
  go_enter Yba.func10, Yba.ntmps10
  go_wp2_with fail
  refine (HU.out _ (only_alloc _ _)).mono ?_
  rintro e w2 ⟨rfl, hh⟩
  have HH : Hid _ := hh
  clear hh
  go_wp2_with fail
  go_end0
  exact ⟨rfl, HH.out⟩

set_option maxRecDepth 100000 in
set_option maxHeartbeats 800000 in
/-- keys.schedule. -/
theorem sched4 (H : Has base B m due run K w) (hm : m ≤ 1024) (x : Nat) (d : Int) (hx : x < m) (hd : due x = 0 ∨ d = 0) (Z : Nat → Prop) (hZ : Free Z w) :
    Calls Yba.prog 4 #[.pointer (some ⟨K, 0, none⟩), .pointer (some ⟨B x, 0, none⟩), tval d] w fun e w' => e = .returned (.tuple #[]) ∧ Has base B m (upd due x d) run K w' ∧ Only (fun k => base ≤ k ∧ ¬ Z k) w w' := by
  have hb : w.heap.size < (w.alloc (.cells #[.int .u64 (tw d), .int .i64 (te d), .pointer none] 37)).heap.size := by simp
  have HU : Hid (∀ w1, Only (fun _ => False) (w.alloc (.cells #[.int .u64 (tw d), .int .i64 (te d), .pointer none] 37)) w1 →
      Calls Yba.prog 10 #[.pointer (some ⟨K, 2, none⟩), .pointer (some ⟨B x, 2, none⟩), .agg #[.int .u64 (tw d), .int .i64 (te d), .pointer none]] w1 fun e w' => e = .returned (.tuple #[]) ∧ (Has base B m (upd due x d) run K w' ∧ Only (fun k => base ≤ k ∧ ¬ Z k) w w') ∧ Only (fun k => k ≠ w.heap.size) w1 w') := by
    intro w1 o1
    have o0 := (only_alloc w (.cells #[.int .u64 (tw d), .int .i64 (te d), .pointer none] 37)).trans o1
    have hbox : w1.heap[w.heap.size]? = some (.cells #[.int .u64 (tw d), .int .i64 (te d), .pointer none] 37 (0, 0)) := o1.at_block (heap_alloc_new w _) (fun h => h)
    refine (sched10 (H.only0 o0) hm x d hx hd (fun k => Z k ∨ k = w.heap.size) ?_).mono ?_
    · rintro k (hk | rfl)
      · exact hZ.only0 o0 k hk
      · exact ⟨_, _, hbox, by decide, by decide, by decide⟩
    · rintro e w2 ⟨rfl, h2, o2⟩
      exact ⟨rfl, ⟨h2, (o0.mono (fun _ _ hf => hf.elim)).step o2 (fun k _ hk => ⟨hk.1, fun hz => hk.2 (.inl hz)⟩)⟩, o2.mono (fun k _ hk => fun e => hk.2 (.inr e))⟩
  have hbox := heap_alloc_new w (.cells #[.int .u64 (tw d), .int .i64 (te d), .pointer none] 37)
  have k0 : (w.alloc (.cells #[.int .u64 (tw d), .int .i64 (te d), .pointer none] 37)).cell? ⟨w.heap.size, 0, none⟩ = some (.int .u64 (tw d)) := cell_of_block hbox rfl
  have k1 : (w.alloc (.cells #[.int .u64 (tw d), .int .i64 (te d), .pointer none] 37)).cell? ⟨w.heap.size, 1, none⟩ = some (.int .i64 (te d)) := cell_of_block hbox rfl
  have k2 : (w.alloc (.cells #[.int .u64 (tw d), .int .i64 (te d), .pointer none] 37)).cell? ⟨w.heap.size, 2, none⟩ = some (.pointer none) := cell_of_block hbox rfl
  have hlt : w.heap.size < (w.alloc (.cells #[.int .u64 (tw d), .int .i64 (te d), .pointer none] 37)).drew.heap.size := hb
  clear H hZ hd hbox hb
  unfold tval
  generalize tw d = X at *
  generalize te d = Y at *
  generalize B x = b at *
  go_enter Yba.func4, Yba.ntmps4
  go_wp2_with fail
  go_region_held3 (fun w' => w'.cell? ⟨w.heap.size, 0, none⟩ = some (.int .u64 X) ∧ w'.cell? ⟨w.heap.size, 1, none⟩ = some (.int .i64 Y) ∧ w'.cell? ⟨w.heap.size, 2, none⟩ = some (.pointer none)) (go_keep)
    ((go_at_call 10; refine (HU.out _ (only_drew _)).mono ?_; rintro e w' ⟨rfl, hh, ho⟩; have HH : Hid _ := hh; clear hh; have q1 := (ho.cell (p := ⟨w.heap.size, 0, none⟩) hlt (fun h => h rfl)).trans k0; have q2 := (ho.cell (p := ⟨w.heap.size, 1, none⟩) hlt (fun h => h rfl)).trans k1; have q3 := (ho.cell (p := ⟨w.heap.size, 2, none⟩) hlt (fun h => h rfl)).trans k2))
  all_goals go_wp2
  all_goals (go_end0; exact ⟨rfl, HH.out⟩)

set_option maxRecDepth 100000 in
set_option maxHeartbeats 800000 in
/-- slot.dueBy. -/
theorem dueBy_any (b : Nat) (d i : Int) (r : Bool) (now : Int) (w : World) (tx : w.heap[b]? = some (.cells (tcells b d i r) 47 (0, 0))) :
    Calls Yba.prog 12 #[.pointer (some ⟨b, 2, none⟩), tval now] w fun e w' => e = .returned (.bool (!(d == 0) && !(decide (now < d)))) ∧ Only (fun _ => False) w w' := by
  have HZ : Hid (∀ w, Calls Yba.prog 7 #[.agg #[.int .u64 (tw d), .int .i64 (te d), .pointer none]] w fun e w' => e = .returned (.bool (d == 0)) ∧ Only (fun _ => False) w w') := fun w => isZero_any d w
  have HA : Hid (∀ w, Calls Yba.prog 19 #[.agg #[.int .u64 (tw d), .int .i64 (te d), .pointer none], .agg #[.int .u64 (tw now), .int .i64 (te now), .pointer none]] w fun e w' => e = .returned (.bool (decide (now < d))) ∧ Only (fun _ => False) w w') := fun w => after_any d now w
  have o0 := only_alloc w (.cells #[.int .u64 (tw now), .int .i64 (te now), .pointer none] 37)
  have t0 := o0.at_block tx (fun h => h)
  have hbox := heap_alloc_new w (.cells #[.int .u64 (tw now), .int .i64 (te now), .pointer none] 37)
  have k0 : (w.alloc (.cells #[.int .u64 (tw now), .int .i64 (te now), .pointer none] 37)).cell? ⟨w.heap.size, 0, none⟩ = some (.int .u64 (tw now)) := cell_of_block hbox rfl
  have k1 : (w.alloc (.cells #[.int .u64 (tw now), .int .i64 (te now), .pointer none] 37)).cell? ⟨w.heap.size, 1, none⟩ = some (.int .i64 (te now)) := cell_of_block hbox rfl
  have k2 : (w.alloc (.cells #[.int .u64 (tw now), .int .i64 (te now), .pointer none] 37)).cell? ⟨w.heap.size, 2, none⟩ = some (.pointer none) := cell_of_block hbox rfl
  have l0 : (w.alloc (.cells #[.int .u64 (tw now), .int .i64 (te now), .pointer none] 37)).cell? ⟨b, 2, none⟩ = some (.int .u64 (tw d)) := cell_of_block t0 rfl
  have l1 : (w.alloc (.cells #[.int .u64 (tw now), .int .i64 (te now), .pointer none] 37)).cell? ⟨b, 3, none⟩ = some (.int .i64 (te d)) := cell_of_block t0 rfl
  have l2 : (w.alloc (.cells #[.int .u64 (tw now), .int .i64 (te now), .pointer none] 37)).cell? ⟨b, 4, none⟩ = some (.pointer none) := cell_of_block t0 rfl
  have m0 : w.cell? ⟨b, 2, none⟩ = some (.int .u64 (tw d)) := cell_of_block tx rfl
  have m1 : w.cell? ⟨b, 3, none⟩ = some (.int .i64 (te d)) := cell_of_block tx rfl
  have m2 : w.cell? ⟨b, 4, none⟩ = some (.pointer none) := cell_of_block tx rfl
  have O0 : Hid _ := o0
  clear tx t0 hbox o0
  unfold tval
  generalize tw now = X at *
  generalize te now = Y at *
  have hd : (d == 0) = true ∨ (d == 0) = false := by cases (d == 0) <;> simp
  rcases hd with hd | hd
  · rw [hd] at HZ
    rw [hd]
    go_enter Yba.func12, Yba.ntmps12
    go_wp2_with fail
    first
      | go_region_with (go_at_call 7; refine (HZ.out _).mono ?_; rintro e w' ⟨rfl, ho⟩)
      | fail
    all_goals go_wp2
    all_goals (go_ret; exact ⟨rfl, O0.out.trans ((only_drew _).trans ho)⟩)
  · rw [hd] at HZ
    rw [hd]
    go_enter Yba.func12, Yba.ntmps12
    go_wp2_with fail
    go_region_held3 (fun w' => w'.cell? ⟨w.heap.size, 0, none⟩ = some (.int .u64 X) ∧ w'.cell? ⟨w.heap.size, 1, none⟩ = some (.int .i64 Y) ∧ w'.cell? ⟨w.heap.size, 2, none⟩ = some (.pointer none) ∧ w'.cell? ⟨b, 2, none⟩ = some (.int .u64 (tw d)) ∧ w'.cell? ⟨b, 3, none⟩ = some (.int .i64 (te d)) ∧ w'.cell? ⟨b, 4, none⟩ = some (.pointer none)) (go_keep)
      (first
        | (go_at_call 7; refine (HZ.out _).mono ?_; rintro e w' ⟨rfl, ho⟩; have q1 := keep1 ho k0; have q2 := keep1 ho k1; have q3 := keep1 ho k2; have q4 := keep1 ho l0; have q5 := keep1 ho l1; have q6 := keep1 ho l2)
        | (go_at_call 19; refine (HA.out _).mono ?_; rintro e w' ⟨rfl, ho2⟩; have r1 := keep0 ho2 q1; have r2 := keep0 ho2 q2; have r3 := keep0 ho2 q3; have r4 := keep0 ho2 q4; have r5 := keep0 ho2 q5; have r6 := keep0 ho2 q6))
    all_goals go_wp2
    all_goals (go_ret; exact ⟨rfl, O0.out.trans ((only_drew _).trans (ho.trans ho2))⟩)

set_option maxRecDepth 100000 in
set_option maxHeartbeats 800000 in
/-- keys.stop. -/
theorem stop_any (H : Has base B m due run K w) (hm : m ≤ 1024) (x : Nat) (now : Int) (hx : x < m) (Z : Nat → Prop) (hZ : Free Z w) :
    Calls Yba.prog 6 #[.pointer (some ⟨K, 0, none⟩), .pointer (some ⟨B x, 0, none⟩), tval now] w fun e w' => e = .returned (.bool (!(due x == 0) && !(decide (now < due x)))) ∧
      Has base B m (if (!(due x == 0) && !(decide (now < due x))) = true then due else upd due x 0) run K w' ∧ Only (fun k => base ≤ k ∧ ¬ Z k) w w' := by
  have H' := H
  obtain ⟨idx, p, c, xs, h⟩ := H'
  have tx := h.q.task x hx
  have o0 := only_alloc w (.cells #[.int .u64 (tw now), .int .i64 (te now), .pointer none] 37)
  have t0 := o0.at_block tx (fun h => h)
  have HD : Hid (∀ w1, Only (fun _ => False) (w.alloc (.cells #[.int .u64 (tw now), .int .i64 (te now), .pointer none] 37)) w1 → Calls Yba.prog 12 #[.pointer (some ⟨B x, 2, none⟩), .agg #[.int .u64 (tw now), .int .i64 (te now), .pointer none]] w1 fun e w' => e = .returned (.bool (!(due x == 0) && !(decide (now < due x)))) ∧ Only (fun _ => False) w1 w') :=
    fun w1 o1 => dueBy_any (B x) (due x) (idx x) (run x) now w1 (o1.at_block t0 (fun h => h))
  have HU : Hid (∀ w1, Only (fun _ => False) w w1 →
      Calls Yba.prog 4 #[.pointer (some ⟨K, 0, none⟩), .pointer (some ⟨B x, 0, none⟩), .agg #[.int .u64 0, .int .i64 0, .pointer none]] w1 fun e w' => e = .returned (.tuple #[]) ∧ Has base B m (upd due x 0) run K w' ∧ Only (fun k => base ≤ k ∧ ¬ Z k) w w') := by
    intro w1 o1
    refine (sched4 (H.only0 o1) hm x 0 hx (.inr rfl) Z (hZ.only0 o1)).mono ?_
    rintro e w2 ⟨rfl, h2, o2⟩
    exact ⟨rfl, h2, (o1.mono (fun _ _ hf => hf.elim)).trans o2⟩
  have HN : Hid (∀ w1, Only (fun _ => False) w w1 → Has base B m due run K w1 ∧ Only (fun k => base ≤ k ∧ ¬ Z k) w w1) := fun w1 o1 => ⟨H.only0 o1, o1.mono (fun _ _ hf => hf.elim)⟩
  have hbox := heap_alloc_new w (.cells #[.int .u64 (tw now), .int .i64 (te now), .pointer none] 37)
  have k0 : (w.alloc (.cells #[.int .u64 (tw now), .int .i64 (te now), .pointer none] 37)).cell? ⟨w.heap.size, 0, none⟩ = some (.int .u64 (tw now)) := cell_of_block hbox rfl
  have k1 : (w.alloc (.cells #[.int .u64 (tw now), .int .i64 (te now), .pointer none] 37)).cell? ⟨w.heap.size, 1, none⟩ = some (.int .i64 (te now)) := cell_of_block hbox rfl
  have k2 : (w.alloc (.cells #[.int .u64 (tw now), .int .i64 (te now), .pointer none] 37)).cell? ⟨w.heap.size, 2, none⟩ = some (.pointer none) := cell_of_block hbox rfl
  have O0 : Hid _ := o0
  clear H hZ h tx t0 hbox o0
  unfold tval
  generalize (!(due x == 0) && !(decide (now < due x))) = ans at *
  generalize tw now = X at *
  generalize te now = Y at *
  generalize B x = b at *
  go_enter Yba.func6, Yba.ntmps6
  go_wp2_with fail
  go_region_held3 (fun w' => w'.cell? ⟨w.heap.size, 0, none⟩ = some (.int .u64 X) ∧ w'.cell? ⟨w.heap.size, 1, none⟩ = some (.int .i64 Y) ∧ w'.cell? ⟨w.heap.size, 2, none⟩ = some (.pointer none)) (go_keep)
    ((go_at_call 12; refine (HD.out _ (only_drew _)).mono ?_; rintro e w' ⟨rfl, ho⟩; have q1 := keep1 ho k0; have q2 := keep1 ho k1; have q3 := keep1 ho k2))
  cases ans with
  | true =>
    go_wp2_with fail
    go_ret
    exact ⟨rfl, HN.out _ (O0.out.trans ((only_drew _).trans ho))⟩
  | false =>
    go_wp2_with fail
    refine (HU.out _ (O0.out.trans ((only_drew _).trans ho))).mono ?_
    rintro e w2 ⟨rfl, hh⟩
    have HH : Hid _ := hh
    clear hh
    go_wp2_with fail
    go_ret
    exact ⟨rfl, HH.out⟩
end Go.Proofs.Ybulkakaw
