import Derived.Test.YbulkakawRemove
namespace Go.Proofs.Ybulkakaw
open Go.RowKit Go.Sort
variable {base : Nat} {B : Nat → Nat} {m : Nat} {due : Nat → Int} {run : Nat → Bool} {idx : Nat → Int} {K g c : Nat} {xs : Array Nat} {w w' : World}

theorem info53 : (Yba.prog.info? 53).map (fun i => (i.zero, i.size, i.bytes)) = some (some (.pointer none), 1, 8) := by kernel_rfl

theorem owns_other {base : Nat} {t : TypeId} {v : Value} {n : Nat} {ys : List Value} {w w' : World} (h : w.ownsRow base t 1 v n ys) (hb : ∀ (k : Nat) (cs : Array Value), w.heap[k]? = some (Obj.cells cs t (0, 0)) → w'.heap[k]? = w.heap[k]?) : w'.ownsRow base t 1 v n ys := by
  refine ⟨h.1, ?_⟩
  rcases h.2 with h | ⟨g, cap, cur, h1, h2, h3, h4⟩
  · exact .inl h
  · exact .inr ⟨g, cap, cur, h1, h2, (hb _ _ h3).trans h3, h4⟩

/-- The queue behind the pointer, nil or not. -/
structure Q (base : Nat) (B : Nat → Nat) (m : Nat) (due : Nat → Int) (run : Nat → Bool) (idx : Nat → Int) (K : Nat) (p : Option Addr) (c : Nat) (xs : Array Nat) (w : World) : Prop extends Ts base B m due run idx w where
  box : w.heap[K]? = some (.cells #[.map none, .map none, .slice p xs.size c] 29 (0, 0))
  own : w.ownsRow base 53 1 (.slice p xs.size c) xs.size (xs.toList.map (es B))
  mem : ∀ k, k < xs.size → xs[k]! < m
  hK : base ≤ K

theorem Qs.toQ (h : Qs base B m due run idx K g c xs w) : Q base B m due run idx K (some ⟨g, 0, none⟩) c xs w :=
  ⟨h.toTs, h.box, h.row.owns h.hg, h.mem, h.hK⟩
theorem Q.toQs {p : Option Addr} (h : Q base B m due run idx K p c xs w) (hn : 0 < xs.size) : ∃ g, p = some ⟨g, 0, none⟩ ∧ Qs base B m due run idx K g c xs w := by
  have ho := h.own
  rcases ho.2 with ⟨_, h0⟩ | ⟨g, cap, cur, hv, _⟩
  · omega
  · cases hv
    obtain ⟨hr, hb⟩ := RowAt.of_owns (enc := es B) (d := xs) ho rfl rfl
    exact ⟨g, rfl, h.toTs, h.box, hr, h.mem, h.hK, hb⟩
theorem Q.block {p : Option Addr} (h : Q base B m due run idx K p c xs w) : ∀ k, (Value.slice p xs.size c).ownBlock = some k → base ≤ k ∧ ∃ cur, w.heap[k]? = some (.cells cur 53 (0, 0)) := by
  intro k hk
  rcases h.own.2 with ⟨hv, _⟩ | ⟨g, cap, cur, hv, hb, hc, _⟩
  · rw [hv] at hk; cases hk
  · rw [hv] at hk
    simp [Value.ownBlock] at hk
    subst hk
    exact ⟨hb, cur, hc⟩
theorem Q.BK {p : Option Addr} (h : Q base B m due run idx K p c xs w) (j : Nat) (hj : j < m) : B j ≠ K := by
  intro e
  have := h.task j hj
  rw [e, h.box] at this
  cases this
theorem Q.cell {p : Option Addr} (h : Q base B m due run idx K p c xs w) : w.cell? ⟨K, 2, none⟩ = some (.slice p xs.size c) := cell_of_block h.box rfl
theorem Q.lt {p : Option Addr} (h : Q base B m due run idx K p c xs w) : K < w.heap.size := (Array.getElem?_eq_some_iff.1 h.box).1

set_option maxRecDepth 100000 in
set_option maxHeartbeats 1600000 in
theorem push52 {p : Option Addr} (h : Q base B m due run idx K p c xs w) (x n : Nat) (hx : x < m) (hn : xs.size = n) (hsz : n + 1 ≤ 2000) :
    Calls Yba.prog 52 #[.pointer (some ⟨K, 2, none⟩), .iface 53 (.pointer (some ⟨B x, 2, none⟩))] w fun e w' => e = .returned (.tuple #[]) ∧ ∃ g' c', Qs base B m due run (upd idx x n) K g' c' (xs.push x) w' ∧
      Only (fun k => base ≤ k ∧ ((∃ t, t < m ∧ k = B t) ∨ k = K ∨ (Value.slice p n c).ownBlock = some k)) w w' ∧ ((Value.slice p n c).ownBlock = some g' ∨ w.heap.size ≤ g') := by
  obtain ⟨i0, hi0, hz0, hz1, hz2⟩ := info_parts info53
  have H : Hid (Q base B m due run idx K p c xs w) := h
  have cK := h.cell
  rw [hn] at cK
  have lK := h.lt
  have tx := h.task x hx
  have cx : w.cell? ⟨B x, 5, none⟩ = some (.int .i64 (idx x)) := cell_of_block tx rfl
  have fx := free_of_block (o := 5) tx
  have lx : B x < w.heap.size := (Array.getElem?_eq_some_iff.1 tx).1
  have nK : B x ≠ K := h.BK x hx
  have hbase : base ≤ w.heap.size := Nat.le_of_lt (Nat.lt_of_le_of_lt h.hK lK)
  have hblk := h.block
  rw [hn] at hblk
  have HB : Hid (∀ k, (Value.slice p n c).ownBlock = some k → base ≤ k ∧ ∃ cur, w.heap[k]? = some (.cells cur 53 (0, 0))) := hblk
  have ag : (Value.slice p n c).ownBlock ≠ some K := fun e => by
    obtain ⟨_, cur, hc⟩ := hblk K e
    rw [h.box] at hc; cases hc
  have ax : (Value.slice p n c).ownBlock ≠ some (B x) := fun e => by
    obtain ⟨_, cur, hc⟩ := hblk _ e
    rw [tx] at hc; cases hc
  have hown := h.own
  rw [hn] at hown
  have hown1 : (w.setCell ⟨B x, 5, none⟩ (.int .i64 n)).ownsRow base 53 1 (.slice p n c) n (xs.toList.map (es B)) := owns_other hown (fun k cs hk => set_other (fun e => by rw [e, tx] at hk; cases hk))
  have hta : ∀ (a : Addr) (w : World), (Instr.typeAssert (.iface 53 (.pointer (some a))) 20 53 false).run Yba.prog w = .ok (.pointer (some a)) w := fun _ _ => by kernel_rfl
  have b1 : (w.setCell ⟨B x, 5, none⟩ (.int .i64 n)).heap[K]? = some (.cells #[.map none, .map none, .slice p n c] 29 (0, 0)) := by rw [set_other (Ne.symm nK), h.box, hn]
  generalize hw1 : w.setCell ⟨B x, 5, none⟩ (.int .i64 n) = w1 at *
  have s1 : w1.heap.size = w.heap.size := by rw [← hw1]; simp [World.setCell]
  have o1 : Only (fun k => k = B x) w w1 := by rw [← hw1]; exact only_setCell w ⟨B x, 5, none⟩ _
  have HO1 : Hid (Only (fun k => k = B x) w w1) := o1
  have t1 : Ts base B m due run (upd idx x n) w1 := by
    refine ⟨fun t ht => ?_, h.inj, h.low⟩
    rw [← hw1]
    by_cases ex : t = x
    · subst ex
      refine set_block tx ?_
      simp [upd, tcells]
    · have nx : B t ≠ B x := fun e => ex (h.inj _ _ ht hx e)
      rw [set_other nx, h.task t ht]
      simp [upd, ex]
  have HT1 : Hid (Ts base B m due run (upd idx x n) w1) := t1
  have HS1 : Hid (w1.heap.size = w.heap.size) := s1
  have HB1 : Hid (w1.heap[K]? = some (.cells #[.map none, .map none, .slice p n c] 29 (0, 0))) := b1
  have c1 : w1.cell? ⟨K, 2, none⟩ = some (.slice p n c) := cell_of_block b1 rfl
  have lK1 : K < w1.heap.size := by rw [s1]; exact lK
  have hbase1 : base ≤ w1.heap.size := by rw [s1]; exact hbase
  have cA : ∀ o, (w1.alloc o).cell? ⟨K, 2, none⟩ = some (.slice p n c) := fun o => (((Below.refl _ w1).alloc (Nat.le_refl _) o).cell (p := ⟨K, 2, none⟩) (by rw [s1]; exact lK)).trans (cell_of_block b1 rfl)
  have fA : ∀ o, (w1.alloc o).frozen? ⟨K, 2, none⟩ = false := fun o => (((Below.refl _ w1).alloc (Nat.le_refl _) o).frozen (p := ⟨K, 2, none⟩) (by rw [s1]; exact lK)).trans (free_of_block b1)
  have HW : Hid (∀ g' c' w2, w2.ownsRow base 53 1 (.slice (some ⟨g', 0, none⟩) (n + 1) c') (n + 1) (xs.toList.map (es B) ++ [.pointer (some ⟨B x, 2, none⟩)]) → (w1.alloc (.cells #[.pointer (some ⟨B x, 2, none⟩)] 53)).grownBy w2 (Value.slice p n c).ownBlock →
      ((Value.slice p n c).ownBlock = some g' ∨ g' = w1.heap.size + 1) →
      Qs base B m due run (upd idx x n) K g' c' (xs.push x) (w2.setCell ⟨K, 2, none⟩ (.slice (some ⟨g', 0, none⟩) (n + 1) c')) ∧
      Only (fun k => base ≤ k ∧ ((∃ t, t < m ∧ k = B t) ∨ k = K ∨ (Value.slice p n c).ownBlock = some k)) w (w2.setCell ⟨K, 2, none⟩ (.slice (some ⟨g', 0, none⟩) (n + 1) c')) ∧ ((Value.slice p n c).ownBlock = some g' ∨ w.heap.size ≤ g')) := by
    intro g' c' w2 hown2 hgr hat
    have hK := h.hK
    have o2 : Only (fun k => (Value.slice p n c).ownBlock = some k) w1 w2 := ((only_alloc w1 (.cells #[.pointer (some ⟨B x, 2, none⟩)] 53)).mono (fun _ _ hf => hf.elim)).step (only_grownBy hgr) (fun _ _ hh => hh.symm)
    obtain ⟨hrow, hbg⟩ := RowAt.of_owns (enc := es B) (d := xs.push x) hown2 (by simp [hn]) (by simp)
    have hneK : K ≠ g' := by
      rcases hat with hat | hat
      · rintro rfl; exact ag hat
      · omega
    have hne : ∀ t, t < m → (Value.slice p n c).ownBlock ≠ some (B t) := fun t ht e => by
      obtain ⟨_, cur, hc⟩ := HB.out _ e
      rw [h.task t ht] at hc; cases hc
    have b2 := o2.at_block b1 ag
    have t2 := t1.only o2 hne
    refine ⟨⟨t2.only (only_setCell _ _ _) (fun t ht => h.BK t ht), ?_, hrow.only (only_setCell _ _ _) (fun hh => hneK hh.symm), ?_, hK, hbg⟩, ?_, ?_⟩
    · rw [Array.size_push, hn]
      exact set_block b2 rfl
    · intro k hk
      rw [Array.size_push] at hk
      by_cases hk' : k < xs.size
      · rw [push_get xs x k hk']
        exact h.mem k hk'
      · obtain rfl : k = xs.size := by omega
        rw [getElem!_pos _ _ (by simp)]
        simpa using hx
    · refine ((o1.mono ?_).step o2 ?_).step (only_setCell _ _ _) ?_
      · rintro k _ rfl
        exact ⟨h.low x hx, .inl ⟨x, hx, rfl⟩⟩
      · intro k _ hk
        exact ⟨(HB.out k hk).1, .inr (.inr hk)⟩
      · rintro k _ rfl
        exact ⟨hK, .inr (.inl rfl)⟩
    · rcases hat with hat | hat
      · exact .inl hat
      · exact .inr (by omega)
  clear h tx hblk hown o1 t1 b1 s1
  go_enter Yba.func52, Yba.ntmps52
  go_wp2_with (at_builtin; refine wpList_append_lies _ (by rfl) _ _ _ (by rfl) base 53 i0 _ 1 8 Yba.underlying27 hi0 hz0 hz1 hz2 rfl (by omega) (.slice p n c) n (xs.toList.map (es B)) (by rfl) (hown1.alloc _) ⟨w1.heap.size, 0, none⟩ 1 1 [.pointer (some ⟨B x, 2, none⟩)] (by rfl) (by rfl) (World.news_of_block (cs := #[.pointer (some ⟨B x, 2, none⟩)]) (t := 53) (fr := (0, 0)) (heap_alloc_new w1 _)) (by simp [Value.oneCell']) (by omega) (by unfold maxLen; omega) (by omega) (by simp; omega) (w1.heap.size + 1) (by simp) ?_; intro gg cap w2 hown2 hgrow hat hlt; have cw1 : w2.cell? ⟨K, 2, none⟩ = some (.slice p n c) := (by rw [hgrow.cell_far _ (by simp; omega) (Ne.symm ag)]; exact cA _); have fw1 : w2.frozen? ⟨K, 2, none⟩ = false := (by rw [hgrow.frozen_far _ (by simp; omega) (Ne.symm ag)]; exact fA _))
  go_end0
  exact ⟨rfl, gg, cap, HW.out gg cap w2 hown2 hgrow hat⟩
end Go.Proofs.Ybulkakaw
