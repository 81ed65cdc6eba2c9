import Derived.Test.YbulkakawPush
namespace Go.Proofs.Ybulkakaw
open Go.RowKit Go.Sort
variable {base : Nat} {B : Nat → Nat} {m : Nat} {due : Nat → Int} {run : Nat → Bool} {idx : Nat → Int} {K g c : Nat} {xs : Array Nat} {w w' : World} {p : Option Addr}

/-- The method by the name under which it stands in the program's own table. -/
theorem method_wait (s : String) (hs : (((Yba.prog.info? 31).bind fun i => i.methods[1]?).map (·.name)).getD "" = s) (a : Addr) (w : World) : (method 219 31 (.pointer (some a)) s).run Yba.prog w = .ok (44, .pointer (some a)) w := by
  subst hs
  kernel_rfl

theorem waiting_any (b : Nat) (r : Bool) (w : World) (hc : w.cell? ⟨b, 7, none⟩ = some (.bool r)) : Calls Yba.prog 44 #[.pointer (some ⟨b, 0, none⟩)] w fun e w' => e = .returned (.bool (!r)) ∧ w' = w := by
  go_enter Yba.func44, Yba.ntmps44
  go_wp2
  go_ret
  exact ⟨rfl, rfl⟩

set_option maxRecDepth 100000 in
set_option maxHeartbeats 800000 in
/-- container/heap.Push of a task that is not in the queue. -/
theorem heapPush_any (h : Q base B m due run idx K p c xs w) (hix : ∀ k, k < xs.size → idx xs[k]! = (k : Int)) (hnd : xs.toList.Nodup) (x n : Nat) (hx : x < m) (hxx : x ∉ xs.toList) (hn : xs.size = n) (hsz : n + 1 ≤ 2000) :
    Calls Yba.prog 22 #[.iface 61 (.pointer (some ⟨K, 2, none⟩)), .iface 53 (.pointer (some ⟨B x, 2, none⟩))] w fun e w' => e = .returned (.tuple #[]) ∧
      ∃ g' c' idx', Qs base B m due run idx' K g' c' (heapUp (ld due) n n (xs.push x)) w' ∧ (∀ k, k < n + 1 → idx' (heapUp (ld due) n n (xs.push x))[k]! = (k : Int)) ∧ (∀ t, t ≠ x → t ∉ xs.toList → idx' t = idx t) ∧
      Only (fun k => base ≤ k ∧ ((∃ t, t < m ∧ k = B t) ∨ k = K ∨ (Value.slice p n c).ownBlock = some k)) w w' := by
  have hmp := method_push
  have hsz1 : (xs.push x).size = n + 1 := by simp [hn]
  have HS1 : Hid ((xs.push x).size = n + 1) := hsz1
  have hnd1 : (xs.push x).toList.Nodup := by
    rw [Array.toList_push]
    exact (List.perm_append_singleton x xs.toList).nodup_iff.2 (List.nodup_cons.2 ⟨hxx, hnd⟩)
  have hix1 : ∀ k, k < (xs.push x).size → upd idx x n (xs.push x)[k]! = (k : Int) := by
    intro k hk
    rw [hsz1] at hk
    by_cases hkn : k < xs.size
    · rw [push_get xs x k hkn]
      have : xs[k]! ≠ x := fun e => hxx (e ▸ get_mem hkn)
      simp only [upd, if_neg this]
      exact hix k hkn
    · obtain rfl : k = xs.size := by omega
      rw [getElem!_pos _ _ (by simp), Array.getElem_push_eq]
      simp [upd, hn]
  go_enter Yba.func22, Yba.ntmps22
  go_wp2_with fail
  refine (push52 h x n hx hn hsz).mono ?_
  rintro e w1 ⟨rfl, g1, c1, q1, o1, hg1⟩
  have hcell := q1.cell
  rw [hsz1] at hcell
  have hm := method_len ⟨K, 2, none⟩ _ w1 hcell
  clear hmp hcell hsz1
  go_wp2_with fail
  refine (len_any _ _ _ _).mono ?_
  rintro e w2 ⟨rfl, rfl⟩
  clear hm
  go_wp2_with fail
  refine (up_any q1 hix1 hnd1 n (by rw [HS1.out]; omega) (by rw [HS1.out]; omega)).mono ?_
  rintro e w3 ⟨rfl, idx3, M3⟩
  have HM3 : Hid _ := M3
  clear M3
  go_wp2_with fail
  go_end0
  refine ⟨rfl, g1, c1, idx3, HM3.out.qs, fun k hk => HM3.out.ix k (by rw [HM3.out.sz, HS1.out]; exact hk), fun t ht htx => ?_, ?_⟩
  · rw [HM3.out.out t (by rw [Array.toList_push]; simp [ht]; simpa using htx)]
    simp [upd, ht]
  · refine o1.step HM3.out.only ?_
    rintro k hk (rfl | ⟨t, ht, rfl⟩)
    · rcases hg1 with hg | hg
      · exact ⟨q1.hg, .inr (.inr hg)⟩
      · omega
    · exact ⟨q1.low t ht, .inl ⟨t, ht, rfl⟩⟩

set_option maxRecDepth 100000 in
/-- 'update', when the task is out of the queue and stays out. -/
theorem update_out (h : Q base B m due run idx K p c xs w) (x : Nat) (hx : x < m) (hno : due x = 0 ∨ run x = true) (hi : idx x = -1) :
    Calls Yba.prog 16 #[.pointer (some ⟨K, 2, none⟩), .pointer (some ⟨B x, 2, none⟩)] w fun e w' => e = .returned (.tuple #[]) ∧ Only (fun _ => False) w w' := by
  have tx := h.task x hx
  have HT : Hid (w.heap[B x]? = some (.cells (tcells (B x) (due x) (idx x) (run x)) 47 (0, 0))) := tx
  rw [hi] at tx
  have c2 : w.cell? ⟨B x, 2, none⟩ = some (.int .u64 (tw (due x))) := cell_of_block tx rfl
  have c3 : w.cell? ⟨B x, 3, none⟩ = some (.int .i64 (te (due x))) := cell_of_block tx rfl
  have c4 : w.cell? ⟨B x, 4, none⟩ = some (.pointer none) := cell_of_block tx rfl
  have hz : ∀ w, Calls Yba.prog 7 #[.agg #[.int .u64 (tw (due x)), .int .i64 (te (due x)), .pointer none]] w fun e w' => e = .returned (.bool (due x == 0)) ∧ Only (fun _ => False) w w' := fun w => isZero_any (due x) w
  have HZ : Hid _ := hz
  clear hz
  generalize B x = b at *
  generalize due x = d at *
  generalize run x = r at *
  clear h hi hx
  go_enter Yba.func16, Yba.ntmps16
  go_wp2_with fail
  refine (HZ.out _).mono ?_
  rintro e w1 ⟨rfl, o1⟩
  have O1 : Hid (Only (fun _ => False) w w1) := o1
  have t1 := o1.at_block tx (fun h => h)
  have d5 : w1.cell? ⟨b, 5, none⟩ = some (.int .i64 (-1)) := cell_of_block t1 rfl
  have d6 : w1.cell? ⟨b, 6, none⟩ = some (.pointer (some ⟨b, 0, none⟩)) := cell_of_block t1 rfl
  have d7 : w1.cell? ⟨b, 7, none⟩ = some (.bool r) := cell_of_block t1 rfl
  clear o1 t1 c2 c3 c4 tx
  by_cases hd : d = 0
  · have hdz : (d == 0) = true := by simp [hd]
    rw [hdz]
    go_wp2_with fail
    go_end0
    exact ⟨rfl, O1.out⟩
  · have hdz : (d == 0) = false := by simp [hd]
    have hr : r = true := hno.resolve_left hd
    subst hr
    rw [hdz]
    go_wp2_with fail
    rw [method_wait _ (by kernel_rfl)]
    go_wp2_with fail
    refine (waiting_any b true w1 d7).mono ?_
    rintro e w2 ⟨rfl, hw2⟩
    subst hw2
    go_wp2_with fail
    go_end0
    exact ⟨rfl, O1.out⟩

set_option maxRecDepth 100000 in
/-- 'update', when the task is in the queue, at i, and has no due time any more. -/
theorem update_rm (h : Q base B m due run idx K p c xs w) (hix : ∀ k, k < xs.size → idx xs[k]! = (k : Int)) (hnd : xs.toList.Nodup) (due0 : Nat → Int) (hh : IsHeap (ld due0) xs.size xs) (i n : Nat) (hn : xs.size = n + 1) (hi : i ≤ n) (hag : ∀ t, t ≠ xs[i]! → due0 t = due t) (hsz : xs.size ≤ 1024)
    (hz : due xs[i]! = 0) :
    Calls Yba.prog 16 #[.pointer (some ⟨K, 2, none⟩), .pointer (some ⟨B xs[i]!, 2, none⟩)] w fun e w' => e = .returned (.tuple #[]) ∧ ∃ g, p = some ⟨g, 0, none⟩ ∧ Gone base B m due run idx K xs xs[i]! g c w w' := by
  obtain ⟨g, rfl, q⟩ := h.toQs (by omega)
  have mx := h.mem i (by omega)
  have tx := h.task _ mx
  have hdx := hix i (by omega)
  rw [hz, hdx] at tx
  have c2 : w.cell? ⟨B xs[i]!, 2, none⟩ = some (.int .u64 0) := cell_of_block tx rfl
  have c3 : w.cell? ⟨B xs[i]!, 3, none⟩ = some (.int .i64 0) := cell_of_block tx rfl
  have c4 : w.cell? ⟨B xs[i]!, 4, none⟩ = some (.pointer none) := cell_of_block tx rfl
  have HZ : Hid (∀ w, Calls Yba.prog 7 #[.agg #[.int .u64 0, .int .i64 0, .pointer none]] w fun e w' => e = .returned (.bool true) ∧ Only (fun _ => False) w w') := fun w => isZero_any 0 w
  have HX : Hid (xs[i]! = xs[i]!) := rfl
  have HG : Hid (∀ w1, Only (fun _ => False) w w1 → Calls Yba.prog 20 #[.iface 61 (.pointer (some ⟨K, 2, none⟩)), .int .i64 i] w1 fun e w' => (∃ v, e = .returned v) ∧ Gone base B m due run idx K xs xs[i]! g c w w') := by
    intro w1 o1
    refine (remove_any (q.only0 o1) hix hnd due0 hh i n hn hi hag hsz).mono ?_
    rintro e w2 ⟨hv, idx', xs', a1, a2, a3, a4, a5, a6, a7⟩
    exact ⟨hv, idx', xs', a1, a2, a3, a4, a5, a6, (o1.mono (fun _ _ hf => hf.elim)).trans a7⟩
  clear q h hag hh hix hdx
  generalize hb : B xs[i]! = b at *
  go_enter Yba.func16, Yba.ntmps16
  go_wp2_with fail
  refine (HZ.out _).mono ?_
  rintro e w1 ⟨rfl, o1⟩
  have O1 : Hid (Only (fun _ => False) w w1) := o1
  have t1 := o1.at_block tx (fun h => h)
  have d5 : w1.cell? ⟨b, 5, none⟩ = some (.int .i64 i) := cell_of_block t1 rfl
  clear o1 t1 c2 c3 c4 tx
  go_wp2_with fail
  refine (HG.out _ O1.out).mono ?_
  rintro e w2 ⟨⟨v, rfl⟩, hg⟩
  have HGG : Hid _ := hg
  clear hg
  go_wp2_with fail
  go_end0
  exact ⟨rfl, g, rfl, HGG.out⟩

set_option maxRecDepth 100000 in
/-- 'update', when the task goes into the queue. -/
theorem update_push (h : Q base B m due run idx K p c xs w) (hix : ∀ k, k < xs.size → idx xs[k]! = (k : Int)) (hnd : xs.toList.Nodup) (x n : Nat) (hx : x < m) (hxx : x ∉ xs.toList) (hn : xs.size = n) (hsz : n + 1 ≤ 2000) (hd : due x ≠ 0) (hr : run x = false) (hi : idx x = -1) :
    Calls Yba.prog 16 #[.pointer (some ⟨K, 2, none⟩), .pointer (some ⟨B x, 2, none⟩)] w fun e w' => e = .returned (.tuple #[]) ∧
      ∃ g' c' idx', Qs base B m due run idx' K g' c' (heapUp (ld due) n n (xs.push x)) w' ∧ (∀ k, k < n + 1 → idx' (heapUp (ld due) n n (xs.push x))[k]! = (k : Int)) ∧ (∀ t, t ≠ x → t ∉ xs.toList → idx' t = idx t) ∧
      Only (fun k => base ≤ k ∧ ((∃ t, t < m ∧ k = B t) ∨ k = K ∨ (Value.slice p n c).ownBlock = some k)) w w' := by
  have tx := h.task x hx
  rw [hi, hr] at tx
  have c2 : w.cell? ⟨B x, 2, none⟩ = some (.int .u64 (tw (due x))) := cell_of_block tx rfl
  have c3 : w.cell? ⟨B x, 3, none⟩ = some (.int .i64 (te (due x))) := cell_of_block tx rfl
  have c4 : w.cell? ⟨B x, 4, none⟩ = some (.pointer none) := cell_of_block tx rfl
  have hdz : (due x == 0) = false := by simp [hd]
  have hz : ∀ w, Calls Yba.prog 7 #[.agg #[.int .u64 (tw (due x)), .int .i64 (te (due x)), .pointer none]] w fun e w' => e = .returned (.bool false) ∧ Only (fun _ => False) w w' := fun w => by
    have := isZero_any (due x) w
    rw [hdz] at this
    exact this
  have HZ : Hid _ := hz
  clear hz hdz
  have HG : Hid (∀ w1, Only (fun _ => False) w w1 → Calls Yba.prog 22 #[.iface 61 (.pointer (some ⟨K, 2, none⟩)), .iface 53 (.pointer (some ⟨B x, 2, none⟩))] w1 fun e w' => e = .returned (.tuple #[]) ∧
      ∃ g' c' idx', Qs base B m due run idx' K g' c' (heapUp (ld due) n n (xs.push x)) w' ∧ (∀ k, k < n + 1 → idx' (heapUp (ld due) n n (xs.push x))[k]! = (k : Int)) ∧ (∀ t, t ≠ x → t ∉ xs.toList → idx' t = idx t) ∧
      Only (fun k => base ≤ k ∧ ((∃ t, t < m ∧ k = B t) ∨ k = K ∨ (Value.slice p n c).ownBlock = some k)) w w') := by
    intro w1 o1
    have q1 : Q base B m due run idx K p c xs w1 := ⟨h.toTs.only o1 (fun _ _ h => h), o1.at_block h.box (fun h => h), owns_other h.own (fun k cs hk => o1.block k (Array.getElem?_eq_some_iff.1 hk).1 (fun h => h)), h.mem, h.hK⟩
    refine (heapPush_any q1 hix hnd x n hx hxx hn hsz).mono ?_
    rintro e w2 ⟨hv, g', c', idx', a1, a2, a3, a7⟩
    exact ⟨hv, g', c', idx', a1, a2, a3, (o1.mono (fun _ _ hf => hf.elim)).trans a7⟩
  clear h hix hnd hxx hd hi hr
  generalize B x = b at *
  go_enter Yba.func16, Yba.ntmps16
  go_wp2_with fail
  refine (HZ.out _).mono ?_
  rintro e w1 ⟨rfl, o1⟩
  have O1 : Hid (Only (fun _ => False) w w1) := o1
  have t1 := o1.at_block tx (fun h => h)
  have d5 : w1.cell? ⟨b, 5, none⟩ = some (.int .i64 (-1)) := cell_of_block t1 rfl
  have d6 : w1.cell? ⟨b, 6, none⟩ = some (.pointer (some ⟨b, 0, none⟩)) := cell_of_block t1 rfl
  have d7 : w1.cell? ⟨b, 7, none⟩ = some (.bool false) := cell_of_block t1 rfl
  clear o1 t1 c2 c3 c4 tx
  go_wp2_with fail
  rw [method_wait _ (by kernel_rfl)]
  go_wp2_with fail
  refine (waiting_any b false w1 d7).mono ?_
  rintro e w2 ⟨rfl, hw2⟩
  subst hw2
  go_wp2_with fail
  refine (HG.out _ O1.out).mono ?_
  rintro e w3 ⟨rfl, hg⟩
  have HGG : Hid _ := hg
  clear hg
  go_wp2_with fail
  go_end0
  exact ⟨rfl, HGG.out⟩
end Go.Proofs.Ybulkakaw
