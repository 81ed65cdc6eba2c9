import Derived.Test.YbulkajnyHeapWalks
import Derived.Test.YbulkajnyMem
import Derived.StillTactics
import Derived.OwnWalk
import Derived.Laws.Pointers
import Derived.Deep.RegionHeld3
import Derived.Deep.AppendLies
import Derived.OneCell
namespace Go.Proofs.Ybulkajny
open Go.RowKit Go.Sort

set_option maxRecDepth 100000 in
set_option maxHeartbeats 1600000 in
theorem push66 (B base n : Nat) (ov : Value) (xs : List Value) (x : Int) (w : World) (hbox : w.heap[B]? = some (.cells #[ov] 23 (0, 0))) (hown : w.ownsRow base 21 1 ov n xs) (ag : ov.ownBlock ≠ some B)
    (hbase : base ≤ w.heap.size) (hn : n + 1 ≤ 1024) :
    Calls Yba.prog 66 #[.pointer (some ⟨B, 0, none⟩), .iface 21 (.int .i32 x)] w fun e w' => e = .returned (.tuple #[]) ∧ ∃ g cap w1, w' = w1.setCell ⟨B, 0, none⟩ (.slice (some ⟨g, 0, none⟩) (n + 1) cap) ∧
      w1.ownsRow base 21 1 (.slice (some ⟨g, 0, none⟩) (n + 1) cap) (n + 1) (xs ++ [.int .i32 x]) ∧ (w.alloc (.cells #[.int .i32 x] 21)).grownBy w1 ov.ownBlock ∧ (ov.ownBlock = some g ∨ g = w.heap.size + 1) := by
  obtain ⟨i0, hi0, hz0, hz1, hz2⟩ := info_parts info21
  have cB := cell_of_one hbox
  have fB := free_of_one hbox
  have lB := World.block_lt_of_cell? w _ cB
  have cA : ∀ o, (w.alloc o).cell? ⟨B, 0, none⟩ = some ov := fun o => (((Below.refl _ w).alloc (Nat.le_refl _) o).cell (p := ⟨B, 0, none⟩) lB).trans cB
  have fA : ∀ o, (w.alloc o).frozen? ⟨B, 0, none⟩ = false := fun o => (((Below.refl _ w).alloc (Nat.le_refl _) o).frozen (p := ⟨B, 0, none⟩) lB).trans fB
  have hta : ∀ (z : Int) (w : World), (Instr.typeAssert (.iface 21 (.int .i32 z)) 20 21 false).run Yba.prog w = .ok (.int .i32 z) w := fun _ _ => by kernel_rfl
  go_enter Yba.func66, Yba.ntmps66
  go_wp2_with fail
  go_region_law
    ((refine step_append_lies _ (by rfl) _ _ _ (by rfl) base 21 i0 _ 1 4 Yba.underlying23 hi0 hz0 hz1 hz2 rfl (by omega) ov n xs (by rfl) ((hown.alloc _).drew)
        ⟨w.heap.size, 0, none⟩ 1 1 [.int .i32 x] (by rfl) (by rfl) (World.news_of_block (cs := #[.int .i32 x]) (t := 21) (fr := (0, 0)) (heap_alloc_new w _)) (by simp [Value.oneCell'])
        (by omega) (by unfold maxLen; omega) (by omega) (by simp; omega) (w.heap.size + 1) (by simp) ?_; intro gg cap w1 hown1 hgrow hat hlt; have cw1 : w1.cell? ⟨B, 0, none⟩ = some ov := (by rw [hgrow.cell_far _ (by simp; omega) (Ne.symm ag)]; exact cA _); have fw1 : w1.frozen? ⟨B, 0, none⟩ = false := (by rw [hgrow.frozen_far _ (by simp; omega) (Ne.symm ag)]; exact fA _)))
  all_goals (go_end0; exact ⟨rfl, gg, cap, w1, rfl, hown1, ⟨hgrow.os, hgrow.tape, hgrow.output, hgrow.size, hgrow.block⟩, hat⟩)

/-- The int32 heap behind the pointer to block B: a box, and a row of the call's own (blocks from 'base' on). -/
structure HP (base B g cap : Nat) (d : Array Int) (w : World) : Prop where
  box : w.heap[B]? = some (.cells #[.slice (some ⟨g, 0, none⟩) d.size cap] 23 (0, 0))
  row : RowAt e32 21 w g cap d
  ne : B ≠ g
  hB : base ≤ B
  hg : base ≤ g

theorem HP.hp {base B g cap : Nat} {d : Array Int} {w : World} (h : HP base B g cap d w) : Hp B g cap d w := ⟨cell_of_one h.box, h.row.holds, h.ne⟩
theorem HP.lt {base B g cap : Nat} {d : Array Int} {w : World} (h : HP base B g cap d w) : B < w.heap.size := (Array.getElem?_eq_some_iff.1 h.box).1
theorem HP.only {base B g cap : Nat} {d : Array Int} {w w' : World} {S : Nat → Prop} (h : HP base B g cap d w) (ho : Only S w w') (h1 : ¬ S B) (h2 : ¬ S g) : HP base B g cap d w' :=
  ⟨ho.at_block h.box h1, h.row.only ho h2, h.ne, h.hB, h.hg⟩
theorem HP.put {base B g cap : Nat} {d : Array Int} {w : World} (h : HP base B g cap d w) (n : Nat) (d' : Array Int) (hs : d'.size = d.size) : HP base B g cap d' (putRow e32 (Sort.ahead w n) g 0 d') :=
  ⟨by rw [hs]; exact (only_putRow e32 w n g 0 d').at_block h.box h.ne, h.row.put n d' hs, h.ne, h.hB, h.hg⟩

/-- (*int32Heap).Push on such a heap. -/
theorem push66_hp (base B g cap : Nat) (d : Array Int) (x : Int) (w : World) (h : HP base B g cap d w) (hn : d.size + 1 ≤ 1024) :
    Calls Yba.prog 66 #[.pointer (some ⟨B, 0, none⟩), .iface 21 (.int .i32 x)] w fun e w' => e = .returned (.tuple #[]) ∧ ∃ g' cap', HP base B g' cap' (d.push x) w' ∧ (g' = g ∨ w.heap.size ≤ g') ∧ Only (fun k => k = B ∨ k = g) w w' := by
  have hb : base ≤ w.heap.size := Nat.le_of_lt (Nat.lt_of_le_of_lt h.hB h.lt)
  refine (push66 B base d.size _ _ x w h.box (h.row.owns h.hg) (by simp [Value.ownBlock]; exact Ne.symm h.ne) hb hn).mono ?_
  rintro e w' ⟨rfl, g', cap', w1, rfl, hown, hgr, hat⟩
  have hat' : g' = g ∨ g' = w.heap.size + 1 := by
    rcases hat with hat | hat
    · simp [Value.ownBlock] at hat; exact .inl hat.symm
    · exact .inr hat
  obtain ⟨hrow, hbg⟩ := RowAt.of_owns (enc := e32) (d := d.push x) hown (by simp) (by simp)
  have hne : B ≠ g' := by
    rcases hat' with rfl | rfl
    · exact h.ne
    · have := h.lt; omega
  have o1 : Only (fun k => k = B ∨ k = g) w w1 := (Only.mono (only_alloc w (.cells #[.int .i32 x] 21)) (fun _ _ hf => hf.elim)).step (only_grownBy hgr) (fun i _ hi => by simp [Value.ownBlock] at hi; exact .inr hi)
  have o2 : Only (fun k => k = B ∨ k = g) w (w1.setCell ⟨B, 0, none⟩ (.slice (some ⟨g', 0, none⟩) (d.size + 1) cap')) := o1.step (only_setCell w1 _ _) (fun i _ hi => .inl hi)
  have hbox1 : w1.heap[B]? = some (.cells #[.slice (some ⟨g, 0, none⟩) d.size cap] 23 (0, 0)) := by
    rw [hgr.block B (by simp; have := h.lt; omega) (by simp [Value.ownBlock]; exact h.ne), Below.heap_alloc w _ B h.lt]; exact h.box
  refine ⟨rfl, g', cap', ⟨?_, hrow.only (only_setCell w1 _ _) (fun hh => hne hh.symm), hne, h.hB, hbg⟩, by omega, o2⟩
  rw [Array.size_push]
  exact one_setCell hbox1

set_option maxRecDepth 100000 in
/-- container/heap.Push. -/
theorem heapPush_any (base B g cap : Nat) (d : Array Int) (x : Int) (w : World) (h : HP base B g cap d w) (hn : d.size + 1 ≤ 1024) :
    Calls Yba.prog 8 #[.iface 27 (.pointer (some ⟨B, 0, none⟩)), .iface 21 (.int .i32 x)] w fun e w' => e = .returned (.tuple #[]) ∧
      ∃ g' cap', HP base B g' cap' (heapUp ltInt d.size d.size (d.push x)) w' ∧ (g' = g ∨ w.heap.size ≤ g') ∧ Only (fun k => k = B ∨ k = g) w w' := by
  have hmp := method_push
  have hsz : (d.push x).size = d.size + 1 := by simp
  go_enter Yba.func8, Yba.ntmps8
  go_wp2_with fail
  refine (push66_hp base B g cap d x w h hn).mono ?_
  rintro e w1 ⟨rfl, g1, c1, h1, hg1, o1⟩
  have hm := method_len ⟨B, 0, none⟩ _ w1 (cell_of_one h1.box)
  rw [hsz] at hm
  clear hmp
  go_wp2_with fail
  refine (len_any _ _ _ _).mono ?_
  rintro e w2 ⟨rfl, rfl⟩
  clear hm
  go_wp2_with fail
  refine (up_any B g1 c1 (d.push x) d.size w2 h1.hp (by omega) (by omega)).mono ?_
  rintro e w3 ⟨rfl, n, rfl⟩
  go_wp2_with fail
  go_end0
  exact ⟨rfl, g1, c1, h1.put n _ (size_heapUp _ _ _ _), hg1, o1.step (only_putRow e32 w2 n g1 0 _) (fun i hi he => by rcases hg1 with hg | hg <;> omega)⟩

theorem RowAt.pop {α : Type} [Inhabited α] {enc : α → Value} {t : TypeId} {w : World} {g cap : Nat} {d : Array α} (h : RowAt enc t w g cap d) : RowAt enc t w g cap d.pop := by
  obtain ⟨cur, h1, h2, h3, h4, h5⟩ := h
  refine ⟨cur, h1, h2, by simp; omega, h4, ?_⟩
  have e : (cur.toList.take d.size).take d.pop.size = (d.toList.map enc).take d.pop.size := by rw [h5]
  rw [List.take_take, Nat.min_eq_left (by simp)] at e
  rw [e]
  simp [List.dropLast_eq_take]

set_option maxRecDepth 100000 in
/-- container/heap.Pop. -/
theorem heapPop_any (base B g cap : Nat) (d : Array Int) (n : Nat) (hd : d.size = n + 1) (w : World) (h : HP base B g cap d w) (hn : d.size ≤ 1024) :
    Calls Yba.prog 12 #[.iface 27 (.pointer (some ⟨B, 0, none⟩))] w fun e w' => e = .returned (.iface 21 (.int .i32 (heapDown ltInt n 0 (swp d 0 n))[n]!)) ∧
      HP base B g cap (heapDown ltInt n 0 (swp d 0 n)).pop w' ∧ Only (fun k => k = B ∨ k = g) w w' := by
  have hm := method_len ⟨B, 0, none⟩ _ w (cell_of_one h.box)
  have hms := method_swap ⟨B, 0, none⟩ _ w (cell_of_one h.box)
  have hmp := method_pop
  rw [hd] at hm hms
  have hsz : (heapDown ltInt n 0 (swp d 0 n)).size = n + 1 := by rw [size_heapDown _ _ _ _ _ (Nat.le_refl _), size_swp, hd]
  have HSZ : Hid ((heapDown ltInt n 0 (swp d 0 n)).size = n + 1) := hsz
  clear hsz
  go_enter Yba.func12, Yba.ntmps12
  go_wp2_with fail
  refine (len_any _ _ _ _).mono ?_
  rintro e w2 ⟨rfl, rfl⟩
  go_wp2_with fail
  refine (swap_any g cap d _ hd 0 n _ _ (by omega) (by omega) w2 h.row.holds (by omega) (by omega)).mono ?_
  rintro e w3 ⟨rfl, m1, hw3⟩
  have h3 : HP base B g cap (swp d 0 n) w3 := by rw [hw3]; exact h.put m1 _ (size_swp _ _ _)
  have o3 : Only (fun k => k = B ∨ k = g) w2 w3 := by rw [hw3]; exact (only_putRow e32 w2 m1 g 0 _).mono (fun _ _ hk => .inr hk)
  clear hw3 hm hms
  go_wp2_with fail
  refine (down_any B g cap (swp d 0 n) 0 n w3 h3.hp (Nat.zero_le _) (by rw [size_swp]; omega) (by rw [size_swp]; omega)).mono ?_
  rintro e w4 ⟨⟨b, rfl⟩, m2, hw4⟩
  have h4 : HP base B g cap (heapDown ltInt n 0 (swp d 0 n)) w4 := by rw [hw4]; exact h3.put m2 _ (size_heapDown _ _ _ _ _ (Nat.le_refl _))
  have o4 : Only (fun k => k = B ∨ k = g) w2 w4 := by rw [hw4]; exact o3.step (only_putRow e32 w3 m2 g 0 _) (fun _ _ hk => .inr hk)
  clear hw4 o3 h3
  have hle : n + 1 ≤ cap := by have := h4.row.le; rw [HSZ.out] at this; exact this
  have hcm : cap ≤ maxLen := by obtain ⟨_, _, _, _, hx, _⟩ := h4.row; exact hx
  unfold maxLen at hcm
  go_wp2_with fail
  refine (pop_any B g 0 n cap (heapDown ltInt n 0 (swp d 0 n))[n]! w4 hle (by omega) (by rw [← HSZ.out]; exact cell_of_one h4.box) (free_of_one h4.box) (by rw [Nat.zero_add]; exact (h4.row.cells n (by rw [HSZ.out]; omega)).1)).mono ?_
  rintro e w5 ⟨rfl, rfl⟩
  go_wp2_with fail
  go_ret
  refine ⟨rfl, ⟨?_, h4.row.pop.only (only_setCell w4 _ _) (fun hh => h4.ne hh.symm), h4.ne, h4.hB, h4.hg⟩, o4.step (only_setCell w4 _ _) (fun _ _ hk => .inl hk)⟩
  have e : (heapDown ltInt n 0 (swp d 0 n)).pop.size = n := by simp [HSZ.out]
  rw [e]
  exact one_setCell h4.box

end Go.Proofs.Ybulkajny
