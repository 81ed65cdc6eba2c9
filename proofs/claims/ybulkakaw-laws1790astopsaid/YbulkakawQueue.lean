import Derived.Test.YbulkakawTime
import Derived.Test.YbulkakawHeapLaw
import Derived.Sort.WalkB2
import Derived.Sort.WalkA
import Derived.WalkLawsBesides
import Derived.WalkSpells
import Derived.BigQuiet
import Derived.Deep.QuietTactic
import Derived.RegionTactic
import Derived.BigRegion
import Derived.CellFam
import Derived.Deep.LoopGhost
import Derived.Deep.RegionHeld3
import Derived.Deep.AppendLies
import Derived.StillTactics
import Derived.OwnWalk
import Derived.Laws.Pointers
import Derived.OneCell
namespace Go.Proofs.Ybulkakaw
open Go.RowKit Go.Sort
theorem wrapNilChk_ok (ts : Array TypeId) (t : TypeId) (a : Addr) (x y : ByteArray) : Builtin.ssaWrapNilChk_ ts t #[.pointer (some a), .string x, .string y] = pure (.pointer (some a)) := rfl
/-- A value method, come to through a pointer in an interface value: the receiver is what the pointer's cell holds. -/
theorem run_method_ptr {P : Program} (fuel : Nat) (t e : TypeId) (name : String) (f : FuncId) (h : ((P.info? t).bind (fun i => i.methods.find? (·.name == name))).map (fun m => (m.path.toList, m.func)) = some ([], some (f, false)))
    (hu : P.underlying t = some (.pointer e)) (ha : ∀ w, (isAgg e).run P w = .ok false w) (a : Addr) (v : Value) (w : World) (hc : w.cell? a = some v) :
    (method (fuel + 1) t (.pointer (some a)) name).run P w = .ok (f, v) w := by
  obtain ⟨m, hm, hf⟩ := Option.map_eq_some_iff.1 h
  obtain ⟨i, hi, hm⟩ := Option.bind_eq_some_iff.1 hm
  simp only [Prod.mk.injEq] at hf
  obtain ⟨h1, h2⟩ := hf
  have hp : m.path = #[] := by cases hq : m.path; simp_all
  unfold method
  simp [typeInfo, hi, hm, h2, follow, receiverAt, hp, Place.get, wrapNilChk_ok, run_underlying hu, asAddr, loadVar, ha, hc, run_load, strVal]
theorem method_len (a : Addr) (v : Value) (w : World) (hc : w.cell? a = some v) : (method 219 61 (.pointer (some a)) "Len").run Yba.prog w = .ok (41, v) w :=
  run_method_ptr 218 61 27 "Len" 41 (by kernel_rfl) Yba.underlying61 Yba.isAgg27 a v w hc
theorem method_less (a : Addr) (v : Value) (w : World) (hc : w.cell? a = some v) : (method 219 61 (.pointer (some a)) "Less").run Yba.prog w = .ok (42, v) w :=
  run_method_ptr 218 61 27 "Less" 42 (by kernel_rfl) Yba.underlying61 Yba.isAgg27 a v w hc
theorem method_swap (a : Addr) (v : Value) (w : World) (hc : w.cell? a = some v) : (method 219 61 (.pointer (some a)) "Swap").run Yba.prog w = .ok (43, v) w :=
  run_method_ptr 218 61 27 "Swap" 43 (by kernel_rfl) Yba.underlying61 Yba.isAgg27 a v w hc
theorem method_push (a : Addr) (w : World) : (method 219 61 (.pointer (some a)) "Push").run Yba.prog w = .ok (52, .pointer (some a)) w := by kernel_rfl
theorem method_pop (a : Addr) (w : World) : (method 219 61 (.pointer (some a)) "Pop").run Yba.prog w = .ok (51, .pointer (some a)) w := by kernel_rfl

/-- A task's cells: its block, due time, place in the queue, running. -/
def tcells (b : Nat) (d i : Int) (r : Bool) : Array Value :=
  #[.nilIface, .nilFunc, .int .u64 (tw d), .int .i64 (te d), .pointer none, .int .i64 i, .pointer (some ⟨b, 0, none⟩), .bool r, .nilIface, .nilFunc, .bool false]
abbrev es (B : Nat → Nat) : Nat → Value := fun x => .pointer (some ⟨B x, 2, none⟩)

/-- The tasks 0 .. m-1, task j in block B j. -/
structure Ts (base : Nat) (B : Nat → Nat) (m : Nat) (due : Nat → Int) (run : Nat → Bool) (idx : Nat → Int) (w : World) : Prop where
  task : ∀ j, j < m → w.heap[B j]? = some (.cells (tcells (B j) (due j) (idx j) (run j)) 47 (0, 0))
  inj : ∀ i j, i < m → j < m → B i = B j → i = j
  low : ∀ j, j < m → base ≤ B j

/-- The queue over block g, which holds the tasks xs. -/
structure Qs (base : Nat) (B : Nat → Nat) (m : Nat) (due : Nat → Int) (run : Nat → Bool) (idx : Nat → Int) (K g c : Nat) (xs : Array Nat) (w : World) : Prop extends Ts base B m due run idx w where
  box : w.heap[K]? = some (.cells #[.map none, .map none, .slice (some ⟨g, 0, none⟩) xs.size c] 29 (0, 0))
  row : RowAt (es B) 53 w g c xs
  mem : ∀ k, k < xs.size → xs[k]! < m
  hK : base ≤ K
  hg : base ≤ g

variable {base : Nat} {B : Nat → Nat} {m : Nat} {due : Nat → Int} {run : Nat → Bool} {idx : Nat → Int} {K g c : Nat} {xs : Array Nat} {w w' : World}

theorem Ts.only {S : Nat → Prop} (h : Ts base B m due run idx w) (ho : Only S w w') (hn : ∀ j, j < m → ¬ S (B j)) : Ts base B m due run idx w' :=
  ⟨fun j hj => ho.at_block (h.task j hj) (hn j hj), h.inj, h.low⟩
theorem Qs.only {S : Nat → Prop} (h : Qs base B m due run idx K g c xs w) (ho : Only S w w') (hn : ∀ j, j < m → ¬ S (B j)) (hK : ¬ S K) (hg : ¬ S g) : Qs base B m due run idx K g c xs w' :=
  ⟨h.toTs.only ho hn, ho.at_block h.box hK, h.row.only ho hg, h.mem, h.hK, h.hg⟩
theorem Qs.only0 (h : Qs base B m due run idx K g c xs w) (ho : Only (fun _ => False) w w') : Qs base B m due run idx K g c xs w' := h.only ho (fun _ _ h => h) (fun h => h) (fun h => h)
theorem Qs.Kg (h : Qs base B m due run idx K g c xs w) : K ≠ g := by
  rintro rfl
  obtain ⟨cur, h1, _⟩ := h.row
  rw [h.box] at h1
  cases h1
theorem Qs.Bg (h : Qs base B m due run idx K g c xs w) (j : Nat) (hj : j < m) : B j ≠ g := by
  intro e
  obtain ⟨cur, h1, _⟩ := h.row
  have := h.task j hj
  rw [e, h1] at this
  cases this
theorem Qs.BK (h : Qs base B m due run idx K g c xs w) (j : Nat) (hj : j < m) : B j ≠ K := by
  intro e
  have := h.task j hj
  rw [e, h.box] at this
  cases this
theorem Qs.cell (h : Qs base B m due run idx K g c xs w) : w.cell? ⟨K, 2, none⟩ = some (.slice (some ⟨g, 0, none⟩) xs.size c) := cell_of_block h.box rfl

theorem keep0 {w w' : World} {p : Addr} {v : Value} (ho : Only (fun _ => False) w w') (hc : w.cell? p = some v) : w'.cell? p = some v :=
  (ho.cell (World.block_lt_of_cell? w _ hc) (fun h => h)).trans hc
theorem keep1 {w w' : World} {p : Addr} {v : Value} (ho : Only (fun _ => False) w.drew w') (hc : w.cell? p = some v) : w'.cell? p = some v := keep0 ho hc

theorem len_any (p : Option Addr) (n c : Nat) (w : World) : Calls Yba.prog 41 #[.slice p n c] w fun e w' => e = .returned (.int .i64 n) ∧ w' = w := by
  go_enter Yba.func41, Yba.ntmps41
  go_wp2
  go_ret
  exact ⟨rfl, rfl⟩

set_option maxRecDepth 100000 in
theorem less_any (h : Qs base B m due run idx K g c xs w) (len : Nat) (hlen : xs.size = len) (i j : Nat) (I J : Int) (hI : I = (i : Int)) (hJ : J = (j : Int)) (hi : i < xs.size) (hj : j < xs.size) :
    Calls Yba.prog 42 #[.slice (some ⟨g, 0, none⟩) len c, .int .i64 I, .int .i64 J] w fun e w' => e = .returned (.bool (decide (due xs[i]! < due xs[j]!))) ∧ Only (fun _ => False) w w' := by
  subst hlen hI hJ
  have c1 : w.cell? ⟨g, i, none⟩ = some (.pointer (some ⟨B xs[i]!, 2, none⟩)) := (h.row.cells i hi).1
  have c2 : w.cell? ⟨g, j, none⟩ = some (.pointer (some ⟨B xs[j]!, 2, none⟩)) := (h.row.cells j hj).1
  have t1 := h.task _ (h.mem i hi)
  have t2 := h.task _ (h.mem j hj)
  generalize xs[i]! = x at *
  generalize xs[j]! = y at *
  generalize B x = bx at *
  generalize B y = by' at *
  have k0 : w.cell? ⟨bx, 2, none⟩ = some (.int .u64 (tw (due x))) := cell_of_block t1 rfl
  have k1 : w.cell? ⟨bx, 3, none⟩ = some (.int .i64 (te (due x))) := cell_of_block t1 rfl
  have k2 : w.cell? ⟨bx, 4, none⟩ = some (.pointer none) := cell_of_block t1 rfl
  have l0 : w.cell? ⟨by', 2, none⟩ = some (.int .u64 (tw (due y))) := cell_of_block t2 rfl
  have l1 : w.cell? ⟨by', 3, none⟩ = some (.int .i64 (te (due y))) := cell_of_block t2 rfl
  have l2 : w.cell? ⟨by', 4, none⟩ = some (.pointer none) := cell_of_block t2 rfl
  have hb := before_any (due x) (due y)
  unfold tval at hb
  generalize due x = dx at *
  generalize due y = dy at *
  generalize xs.size = n at *
  clear h t1 t2
  have i1 : (i : Int) < (n : Int) := by omega
  have i2 : (j : Int) < (n : Int) := by omega
  have HB := hb
  have HBB : Hid (∀ w, Calls Yba.prog 9 #[tval dx, tval dy] w fun e w' => e = .returned (.bool (decide (dx < dy))) ∧ Only (fun _ => False) w w') := before_any dx dy
  clear hb HB
  go_enter Yba.func42, Yba.ntmps42
  go_wp2_with fail
  go_region_held3 (fun w' => w'.cell? ⟨g, i, none⟩ = some (.pointer (some ⟨bx, 2, none⟩)) ∧ w'.cell? ⟨g, j, none⟩ = some (.pointer (some ⟨by', 2, none⟩)) ∧ w'.cell? ⟨bx, 2, none⟩ = some (.int .u64 (tw dx)) ∧ w'.cell? ⟨bx, 3, none⟩ = some (.int .i64 (te dx)) ∧ w'.cell? ⟨bx, 4, none⟩ = some (.pointer none) ∧ w'.cell? ⟨by', 2, none⟩ = some (.int .u64 (tw dy)) ∧ w'.cell? ⟨by', 3, none⟩ = some (.int .i64 (te dy)) ∧ w'.cell? ⟨by', 4, none⟩ = some (.pointer none)) (go_keep)
    ((go_at_call 9; refine (HBB.out _).mono ?_; rintro e w' ⟨rfl, ho⟩; have q1 := keep1 ho c1; have q2 := keep1 ho c2; have q3 := keep1 ho k0; have q4 := keep1 ho k1; have q5 := keep1 ho k2; have q6 := keep1 ho l0; have q7 := keep1 ho l1; have q8 := keep1 ho l2))
  all_goals go_wp2
  all_goals (go_ret; exact ⟨rfl, (only_drew w).trans ho⟩)

/-- The places behind a swap. -/
def swi (idx : Nat → Int) (x y i j : Nat) : Nat → Int := fun t => if t = x then (j : Int) else if t = y then (i : Int) else idx t

set_option maxRecDepth 100000 in
theorem swap_any (h : Qs base B m due run idx K g c xs w) (len : Nat) (hlen : xs.size = len) (i j : Nat) (I J : Int) (hI : I = (i : Int)) (hJ : J = (j : Int)) (hi : i < xs.size) (hj : j < xs.size) (hij : i ≠ j) (hne : xs[i]! ≠ xs[j]!) :
    Calls Yba.prog 43 #[.slice (some ⟨g, 0, none⟩) len c, .int .i64 I, .int .i64 J] w fun e w' => e = .returned (.tuple #[]) ∧ Qs base B m due run (swi idx xs[i]! xs[j]! i j) K g c (swp xs i j) w' ∧ Only (fun k => k = g ∨ ∃ t, t < m ∧ k = B t) w w' := by
  subst hlen hI hJ
  have H : Hid (Qs base B m due run idx K g c xs w) := h
  have c1 : w.cell? ⟨g, i, none⟩ = some (.pointer (some ⟨B xs[i]!, 2, none⟩)) := (h.row.cells i hi).1
  have c2 : w.cell? ⟨g, j, none⟩ = some (.pointer (some ⟨B xs[j]!, 2, none⟩)) := (h.row.cells j hj).1
  have f1 := (h.row.cells i hi).2
  have f2 := (h.row.cells j hj).2
  have t1 := h.task _ (h.mem i hi)
  have t2 := h.task _ (h.mem j hj)
  have n1 := h.Bg _ (h.mem i hi)
  have n2 := h.Bg _ (h.mem j hj)
  have n3 : B xs[i]! ≠ B xs[j]! := fun e => hne (h.inj _ _ (h.mem i hi) (h.mem j hj) e)
  have k0 : w.cell? ⟨B xs[i]!, 5, none⟩ = some (.int .i64 (idx xs[i]!)) := cell_of_block t1 rfl
  have l0 : w.cell? ⟨B xs[j]!, 5, none⟩ = some (.int .i64 (idx xs[j]!)) := cell_of_block t2 rfl
  have k1 := free_of_block (o := 5) t1
  have l1 := free_of_block (o := 5) t2
  have HW : Hid (∀ q, Qs base B m due run (swi idx xs[i]! xs[j]! i j) K g c (swp xs i j) (((((w.drewN q).setCell ⟨g, i, none⟩ (es B xs[j]!)).setCell ⟨g, j, none⟩ (es B xs[i]!)).setCell ⟨B xs[j]!, 5, none⟩ (.int .i64 i)).setCell ⟨B xs[i]!, 5, none⟩ (.int .i64 j)) ∧
      Only (fun k => k = g ∨ ∃ t, t < m ∧ k = B t) w (((((w.drewN q).setCell ⟨g, i, none⟩ (es B xs[j]!)).setCell ⟨g, j, none⟩ (es B xs[i]!)).setCell ⟨B xs[j]!, 5, none⟩ (.int .i64 i)).setCell ⟨B xs[i]!, 5, none⟩ (.int .i64 j))) := by
    intro q
    have e := putRow_swp (es B) (Sort.ahead w q) g 0 xs i j hi hj
    rw [putRow_self (es B) (Sort.ahead w q) g 0 xs (holds_ahead (es B) w q g 0 xs h.row.holds), Nat.zero_add, Nat.zero_add] at e
    have e' : (((w.drewN q).setCell ⟨g, i, none⟩ (es B xs[j]!)).setCell ⟨g, j, none⟩ (es B xs[i]!)) = putRow (es B) (Sort.ahead w q) g 0 (swp xs i j) := e
    rw [e']
    have r1 := h.row.put q (swp xs i j) (size_swp _ _ _)
    have o1 := only_putRow (es B) w q g 0 (swp xs i j)
    generalize putRow (es B) (Sort.ahead w q) g 0 (swp xs i j) = W at *
    have mi := h.mem i hi
    have mj := h.mem j hj
    have r2 := (r1.only (only_setCell W ⟨B xs[j]!, 5, none⟩ (.int .i64 i)) (fun hh => n2 hh.symm)).only (only_setCell _ ⟨B xs[i]!, 5, none⟩ (.int .i64 j)) (fun hh => n1 hh.symm)
    refine ⟨⟨⟨fun t ht => ?_, h.inj, h.low⟩, ?_, r2, ?_, h.hK, h.hg⟩, ?_⟩
    · have b0 : W.heap[B t]? = some (.cells (tcells (B t) (due t) (idx t) (run t)) 47 (0, 0)) := o1.at_block (h.task t ht) (h.Bg t ht)
      by_cases ex : t = xs[i]!
      · subst ex
        refine set_block (w := (W.setCell ⟨B xs[j]!, 5, none⟩ (.int .i64 i))) ((set_other n3).trans b0) ?_
        simp [swi, tcells]
      · have nx : B t ≠ B xs[i]! := fun e => ex (h.inj _ _ ht mi e)
        rw [set_other nx]
        by_cases ey : t = xs[j]!
        · subst ey
          refine set_block b0 ?_
          simp [swi, tcells, ex]
        · have ny : B t ≠ B xs[j]! := fun e => ey (h.inj _ _ ht mj e)
          rw [set_other ny, b0]
          simp [swi, ex, ey]
    · rw [set_other (Ne.symm (h.BK _ mi)), set_other (Ne.symm (h.BK _ mj)), size_swp]
      exact o1.at_block h.box h.Kg
    · intro k hk
      rw [size_swp] at hk
      rw [swp_get xs hi hj k]
      split
      · exact mi
      · split
        · exact mj
        · exact h.mem k hk
    · exact ((o1.mono (fun _ _ hh => .inl hh)).step (only_setCell _ _ _) (fun _ _ hh => .inr ⟨_, mj, hh⟩)).step (only_setCell _ _ _) (fun _ _ hh => .inr ⟨_, mi, hh⟩)
  clear h t1 t2
  generalize xs[i]! = x at *
  generalize xs[j]! = y at *
  generalize hbx : B x = bx at *
  generalize hby : B y = by' at *
  generalize xs.size = n at *
  have i1 : (i : Int) < (n : Int) := by omega
  have i2 : (j : Int) < (n : Int) := by omega
  go_enter Yba.func43, Yba.ntmps43
  go_wp2
  go_region
  all_goals go_wp2
  all_goals (go_end0; refine ⟨rfl, ?_⟩; have R := HW.out 1; simp only [es, hbx, hby] at R; exact R)

/-- What the moves of a heap keep: from places idx0, queue xs0, world w0 to idx, xs, w. -/
structure Mv (base : Nat) (B : Nat → Nat) (m : Nat) (due : Nat → Int) (run : Nat → Bool) (K g c : Nat) (idx0 : Nat → Int) (xs0 : Array Nat) (w0 : World) (idx : Nat → Int) (xs : Array Nat) (w : World) : Prop where
  qs : Qs base B m due run idx K g c xs w
  ix : ∀ k, k < xs.size → idx xs[k]! = (k : Int)
  pm : xs.toList.Perm xs0.toList
  out : ∀ t, t ∉ xs0.toList → idx t = idx0 t
  only : Only (fun k => k = g ∨ ∃ t, t < m ∧ k = B t) w0 w

theorem nodup_get {xs : Array Nat} (h : xs.toList.Nodup) {i j : Nat} (hi : i < xs.size) (hj : j < xs.size) (e : xs[i]! = xs[j]!) : i = j := by
  rw [getElem!_pos xs i hi, getElem!_pos xs j hj] at e
  have H := List.pairwise_iff_getElem.1 h
  rcases Nat.lt_trichotomy i j with hl | hl | hl
  · exact absurd e (H i j (by simpa using hi) (by simpa using hj) hl)
  · exact hl
  · exact absurd e.symm (H j i (by simpa using hj) (by simpa using hi) hl)
theorem get_mem {xs : Array Nat} {i : Nat} (hi : i < xs.size) : xs[i]! ∈ xs.toList := by
  rw [getElem!_pos xs i hi]; simp

theorem swp_perm (xs : Array Nat) {i j : Nat} (hi : i < xs.size) (hj : j < xs.size) : (swp xs i j).toList.Perm xs.toList :=
  perm_of_permIn rfl (swp_permIn xs 0 xs.size i j (Nat.zero_le _) hi (Nat.zero_le _) hj (Nat.le_refl _))

section
variable {idx0 : Nat → Int} {xs0 : Array Nat} {w0 : World}
theorem Mv.refl (h : Qs base B m due run idx K g c xs w) (hi : ∀ k, k < xs.size → idx xs[k]! = (k : Int)) : Mv base B m due run K g c idx xs w idx xs w :=
  ⟨h, hi, List.Perm.refl _, fun _ _ => rfl, Only.refl _ _⟩
theorem Mv.nd (h : Mv base B m due run K g c idx0 xs0 w0 idx xs w) (hnd : xs0.toList.Nodup) : xs.toList.Nodup := h.pm.nodup_iff.2 hnd
theorem Mv.sz (h : Mv base B m due run K g c idx0 xs0 w0 idx xs w) : xs.size = xs0.size := by simpa using h.pm.length_eq
theorem Mv.only0 (h : Mv base B m due run K g c idx0 xs0 w0 idx xs w) (ho : Only (fun _ => False) w w') : Mv base B m due run K g c idx0 xs0 w0 idx xs w' :=
  ⟨h.qs.only0 ho, h.ix, h.pm, h.out, h.only.step ho (fun _ _ hf => hf.elim)⟩
theorem Mv.swap (h : Mv base B m due run K g c idx0 xs0 w0 idx xs w) (hnd : xs0.toList.Nodup) {i j : Nat} (hi : i < xs.size) (hj : j < xs.size) (hij : i ≠ j)
    (q : Qs base B m due run (swi idx xs[i]! xs[j]! i j) K g c (swp xs i j) w') (o : Only (fun k => k = g ∨ ∃ t, t < m ∧ k = B t) w w') :
    Mv base B m due run K g c idx0 xs0 w0 (swi idx xs[i]! xs[j]! i j) (swp xs i j) w' := by
  have nd := h.nd hnd
  refine ⟨q, fun k hk => ?_, (swp_perm xs hi hj).trans h.pm, fun t ht => ?_, h.only.trans o⟩
  · rw [size_swp] at hk
    rw [swp_get xs hi hj k]
    have hne : xs[i]! ≠ xs[j]! := fun e => hij (nodup_get nd hi hj e)
    split
    · subst_vars; simp [swi]
    · split
      · subst_vars; simp [swi, Ne.symm hne]
      · have a1 : xs[k]! ≠ xs[i]! := fun e => absurd (nodup_get nd hk hi e) (by assumption)
        have a2 : xs[k]! ≠ xs[j]! := fun e => absurd (nodup_get nd hk hj e) (by assumption)
        simp only [swi, if_neg a1, if_neg a2]
        exact h.ix k hk
  · have a1 : t ≠ xs[i]! := fun e => ht (h.pm.mem_iff.1 (e ▸ get_mem hi))
    have a2 : t ≠ xs[j]! := fun e => ht (h.pm.mem_iff.1 (e ▸ get_mem hj))
    simp only [swi, if_neg a1, if_neg a2]
    exact h.out t ht
end

abbrev ld (due : Nat → Int) : Nat → Nat → Bool := fun a b => decide (due a < due b)

theorem half_int (j : Nat) (h : 0 < j) : ((j : Int) - 1).tdiv 2 = (((j - 1) / 2 : Nat) : Int) := by
  rw [Int.tdiv_eq_ediv_of_nonneg (by omega)]; omega

set_option maxRecDepth 100000 in
set_option maxHeartbeats 800000 in
theorem up_any (h : Qs base B m due run idx K g c xs w) (hix : ∀ k, k < xs.size → idx xs[k]! = (k : Int)) (hnd : xs.toList.Nodup) (j : Nat) (hj : j < xs.size) (hsz : xs.size < 4611686018427387904) :
    Calls Yba.prog 24 #[.iface 61 (.pointer (some ⟨K, 2, none⟩)), .int .i64 j] w fun e w' => e = .returned (.tuple #[]) ∧ ∃ idx', Mv base B m due run K g c idx xs w idx' (heapUp (ld due) j j xs) w' := by
  go_enter Yba.func24, Yba.ntmps24
  go_wp2_with fail
  go_loopg [1] j (fun k s1 wr => ∃ (i : Nat) (dk : Array Nat) (ik : Nat → Int), s1 = .int .i64 i ∧ i ≤ k ∧ k ≤ j ∧ Mv base B m due run K g c idx xs w ik dk wr ∧ heapUp (ld due) j i dk = heapUp (ld due) j j xs)
  case atStart => exact ⟨j, xs, idx, rfl, Nat.le_refl _, Nat.le_refl _, Mv.refl h hix, rfl⟩
  case round =>
    obtain ⟨i, dk, ik, rfl, hik, hkj, hmv, heq⟩ := hrel
    have hds := hmv.sz
    have HM : Hid (Mv base B m due run K g c idx xs w ik dk wr) := hmv
    have HE : Hid (heapUp (ld due) j i dk = heapUp (ld due) j j xs) := heq
    have hcell := hmv.qs.cell
    rw [hds] at hcell
    clear hmv heq
    by_cases h0 : i = 0
    · subst h0
      go_wp2_with fail
      go_end0
      refine ⟨rfl, ik, ?_⟩
      rw [← HE.out, heapUp_stop _ _ _ _ (.inl rfl)]
      exact HM.out
    · have hh := half_int i (by omega)
      generalize hp : (i - 1) / 2 = p at hh
      have HP : Hid ((i - 1) / 2 = p) := hp
      have hpi : p < i := by omega
      clear hp
      have hne : ((p : Int) == (i : Int)) = false := beq_eq_false_iff_ne.2 (by omega)
      have hm := method_less ⟨K, 2, none⟩ _ wr hcell
      clear hcell
      go_wp2_with fail
      refine (less_any HM.out.qs _ hds i p _ _ rfl rfl (by omega) (by omega)).mono ?_
      rintro e w1 ⟨rfl, ho1⟩
      have HM1 : Hid (Mv base B m due run K g c idx xs w ik dk w1) := HM.out.only0 ho1
      have hcell := HM1.out.qs.cell
      rw [hds] at hcell
      have hms := method_swap ⟨K, 2, none⟩ _ w1 hcell
      clear hm hcell ho1
      cases hl : decide (due dk[i]! < due dk[p]!) with
      | false =>
        go_wp2_with fail
        go_end0
        refine ⟨rfl, ik, ?_⟩
        rw [← HE.out, heapUp_stop _ _ _ _ (.inr (by rw [HP.out]; exact hl))]
        exact HM1.out
      | true =>
        go_wp2_with fail
        refine (swap_any HM1.out.qs _ hds p i _ _ rfl rfl (by omega) (by omega) (by omega) (fun e => absurd (nodup_get (HM1.out.nd hnd) (by omega) (by omega) e) (by omega))).mono ?_
        rintro e w2 ⟨rfl, q2, o2⟩
        have HM2 : Hid _ := HM1.out.swap hnd (i := p) (j := i) (by omega) (by omega) (by omega) q2 o2
        clear q2 o2 hms
        go_wp2_with fail
        go_roundg p
        case measure => omega
        case rel =>
          refine ⟨p, swp dk p i, _, rfl, Nat.le_refl _, by omega, HM2.out, ?_⟩
          rw [← HE.out]
          have e := heapUp_go (ld due) j i dk h0 (by rw [HP.out]; exact hl)
          rw [HP.out] at e
          rw [heapUp_fuel (ld due) j (j + 1) i dk (by omega) (by omega), e]
end Go.Proofs.Ybulkakaw
