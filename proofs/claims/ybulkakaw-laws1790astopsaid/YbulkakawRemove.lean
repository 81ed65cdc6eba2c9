import Derived.Test.YbulkakawDown
namespace Go.Proofs.Ybulkakaw
open Go.RowKit Go.Sort
variable {base : Nat} {B : Nat → Nat} {m : Nat} {due : Nat → Int} {run : Nat → Bool} {idx : Nat → Int} {K g c : Nat} {xs : Array Nat} {w w' : World}

theorem swo_ld (due : Nat → Int) : SWO (ld due) :=
  ⟨fun x => by simp [ld], fun x y z h1 h2 => by simp [ld] at *; omega, fun x y z h1 h2 => by simp [ld] at *; omega⟩

section
variable (due due0 : Nat → Int) (xs)
theorem rm_p2 (n i : Nat) (hn : xs.size = n + 1) (hi : i < n) (hag : ∀ k, k ≤ n → k ≠ i → due0 xs[k]! = due xs[k]!) (hh : IsHeap (ld due0) xs.size xs) : 0 < i → ∀ k, (k = 2 * i + 1 ∨ k = 2 * i + 2) → k < n → ld due (swp xs i n)[k]! (swp xs i n)[(i - 1) / 2]! = false := by
  intro h0 k hk hkn
  rw [swp_other xs i n k (by omega) (by omega), swp_other xs i n ((i - 1) / 2) (by omega) (by omega)]
  have a1 := of_decide_eq_false (hh i k hk (by omega))
  have a2 := of_decide_eq_false (hh ((i - 1) / 2) i (by omega) (by omega))
  have b1 := hag k (by omega) (by omega)
  have b2 := hag ((i - 1) / 2) (by omega) (by omega)
  exact decide_eq_false (by omega)
theorem rm_last (n i : Nat) (hn : xs.size = n + 1) (d : Array Nat) (hp : PermIn 0 n (swp xs i n) d) : d.size = n + 1 ∧ d[n]! = xs[i]! := by
  refine ⟨by rw [hp.1, size_swp, hn], ?_⟩
  rw [hp.2.1 n (.inr (Nat.le_refl _)), swp_right xs i n (by omega)]
theorem rm_down (n i : Nat) (hn : xs.size = n + 1) (hi : i < n) (hag : ∀ k, k ≤ n → k ≠ i → due0 xs[k]! = due xs[k]!) (hh : IsHeap (ld due0) xs.size xs) (hc : ∃ k, (k = 2 * i + 1 ∨ k = 2 * i + 2) ∧ k < n ∧ ld due (swp xs i n)[k]! (swp xs i n)[i]! = true) :
    IsHeap (ld due) n (heapDown (ld due) n i (swp xs i n)) ∧ PermIn 0 n (swp xs i n) (heapDown (ld due) n i (swp xs i n)) := by
  refine heapDown_heap (swo_ld due) n i (swp xs i n) (by rw [size_swp]; omega) ?_ (rm_p2 xs due due0 n i hn hi hag hh)
  intro p k hk hkn hpi
  by_cases hki : k = i
  · subst hki
    obtain ⟨q, hq, hqn, hl⟩ := hc
    have a0 := of_decide_eq_true hl
    rw [swp_other xs k n q (by omega) (by omega), swp_left xs k n (by omega) (by omega)] at a0
    rw [swp_left xs k n (by omega) (by omega), swp_other xs k n p (by omega) (by omega)]
    have a1 := of_decide_eq_false (hh k q hq (by omega))
    have a2 := of_decide_eq_false (hh p k hk (by omega))
    have b1 := hag q (by omega) (by omega)
    have b2 := hag p (by omega) (by omega)
    exact decide_eq_false (by omega)
  · rw [swp_other xs i n k (by omega) (by omega), swp_other xs i n p (by omega) (by omega)]
    have a1 := of_decide_eq_false (hh p k hk (by omega))
    have b1 := hag k (by omega) (by omega)
    have b2 := hag p (by omega) (by omega)
    exact decide_eq_false (by omega)
theorem rm_up (n i : Nat) (hn : xs.size = n + 1) (hi : i < n) (hag : ∀ k, k ≤ n → k ≠ i → due0 xs[k]! = due xs[k]!) (hh : IsHeap (ld due0) xs.size xs) (hc : ∀ k, (k = 2 * i + 1 ∨ k = 2 * i + 2) → k < n → ld due (swp xs i n)[k]! (swp xs i n)[i]! = false) :
    IsHeap (ld due) n (heapUp (ld due) i i (swp xs i n)) ∧ PermIn 0 n (swp xs i n) (heapUp (ld due) i i (swp xs i n)) := by
  refine heapUp_heap (swo_ld due) n i i (swp xs i n) (Nat.le_refl _) hi (by rw [size_swp]; omega) ?_ (rm_p2 xs due due0 n i hn hi hag hh)
  intro p k hk hkn hki
  by_cases hpi : p = i
  · subst hpi
    exact hc k hk hkn
  · rw [swp_other xs i n k (by omega) (by omega), swp_other xs i n p (by omega) (by omega)]
    have a1 := of_decide_eq_false (hh p k hk (by omega))
    have b1 := hag k (by omega) (by omega)
    have b2 := hag p (by omega) (by omega)
    exact decide_eq_false (by omega)
end

theorem pop_perm (d : Array Nat) (n : Nat) (hsz : d.size = n + 1) : d.toList.Perm (d[n]! :: d.pop.toList) := by
  have e : d.toList = d.pop.toList ++ [d[n]!] := by
    apply List.ext_getElem?
    intro j
    by_cases hj : j < n
    · simp [List.getElem?_append, hsz, hj]
    · by_cases hjn : j = n
      · subst hjn
        simp [hsz]
      · rw [List.getElem?_eq_none (by simp [hsz]; omega), List.getElem?_eq_none (by simp [hsz]; omega)]
  rw [e]
  refine (List.perm_append_singleton _ _).trans ?_
  simp
theorem pop_heap (d : Array Nat) (n : Nat) (hsz : d.size = n + 1) (hd : IsHeap (ld due) n d) : IsHeap (ld due) d.pop.size d.pop := by
  intro i k hk hkn
  have hs : d.pop.size = n := by simp [hsz]
  rw [hs] at hkn
  rw [pop_get _ k (by omega), pop_get _ i (by omega)]
  exact hd i k hk hkn

theorem RowAt.pop {α : Type} [Inhabited α] {enc : α → Value} {t : TypeId} {w : World} {g cap : Nat} {d : Array α} (h : RowAt enc t w g cap d) : RowAt enc t w g cap d.pop := by
  obtain ⟨cur, h1, h2, h3, h4, h5⟩ := h
  refine ⟨cur, h1, h2, by simp; omega, h4, ?_⟩
  have e : (cur.toList.take d.size).take d.pop.size = (d.toList.map enc).take d.pop.size := by rw [h5]
  rw [List.take_take, Nat.min_eq_left (by simp)] at e
  rw [e]
  simp [List.dropLast_eq_take]
/-- A cell behind the row turns. -/
theorem RowAt.behind {α : Type} [Inhabited α] {enc : α → Value} {t : TypeId} {w : World} {g cap : Nat} {d : Array α} (h : RowAt enc t w g cap d) (n : Nat) (hn : d.size ≤ n) (v : Value) : RowAt enc t (w.setCell ⟨g, n, none⟩ v) g cap d := by
  obtain ⟨cur, h1, h2, h3, h4, h5⟩ := h
  refine ⟨cur.setIfInBounds n v, set_block h1 rfl, by simpa using h2, h3, h4, ?_⟩
  rw [← h5]
  apply List.ext_getElem?
  intro j
  rw [List.getElem?_take, List.getElem?_take]
  split
  · rw [Array.toList_setIfInBounds, List.getElem?_set_ne (by omega)]
  · rfl

/-- The place of one task. -/
def upd (idx : Nat → Int) (x : Nat) (v : Int) : Nat → Int := fun t => if t = x then v else idx t

set_option maxRecDepth 100000 in
theorem pop_any (h : Qs base B m due run idx K g c xs w) (n : Nat) (hn : xs.size = n + 1) (hsz : xs.size ≤ 1024) :
    Calls Yba.prog 51 #[.pointer (some ⟨K, 2, none⟩)] w fun e w' => (∃ v, e = .returned v) ∧ Qs base B m due run (upd idx xs[n]! (-1)) K g c xs.pop w' ∧ Only (fun k => k = K ∨ k = g ∨ ∃ t, t < m ∧ k = B t) w w' := by
  have mx := h.mem n (by omega)
  have c0 := h.cell
  rw [hn] at c0
  have f0 := free_of_block (o := 2) h.box
  have c1 : w.cell? ⟨g, n, none⟩ = some (.pointer (some ⟨B xs[n]!, 2, none⟩)) := (h.row.cells n (by omega)).1
  have f1 := (h.row.cells n (by omega)).2
  have t1 := h.task _ mx
  have c2 : w.cell? ⟨B xs[n]!, 5, none⟩ = some (.int .i64 (idx xs[n]!)) := cell_of_block t1 rfl
  have f2 := free_of_block (o := 5) t1
  have n1 := h.Bg _ mx
  have n2 := h.BK _ mx
  have n3 := h.Kg
  have hle : n + 1 ≤ c := by have := h.row.le; omega
  have hcm : c ≤ maxLen := by obtain ⟨_, _, _, _, hx, _⟩ := h.row; exact hx
  unfold maxLen at hcm
  have HW : Hid (Qs base B m due run (upd idx xs[n]! (-1)) K g c xs.pop (((w.setCell ⟨g, n, none⟩ (.pointer none)).setCell ⟨K, 2, none⟩ (.slice (some ⟨g, 0, none⟩) n c)).setCell ⟨B xs[n]!, 5, none⟩ (.int .i64 (-1))) ∧
      Only (fun k => k = K ∨ k = g ∨ ∃ t, t < m ∧ k = B t) w (((w.setCell ⟨g, n, none⟩ (.pointer none)).setCell ⟨K, 2, none⟩ (.slice (some ⟨g, 0, none⟩) n c)).setCell ⟨B xs[n]!, 5, none⟩ (.int .i64 (-1)))) := by
    have hs : xs.pop.size = n := by simp [hn]
    refine ⟨⟨⟨fun t ht => ?_, h.inj, h.low⟩, ?_, ?_, ?_, h.hK, h.hg⟩, ?_⟩
    · by_cases ex : t = xs[n]!
      · subst ex
        refine set_block ((set_other n2).trans ((set_other n1).trans t1)) ?_
        simp [upd, tcells]
      · have nx : B t ≠ B xs[n]! := fun e => ex (h.inj _ _ ht mx e)
        rw [set_other nx, set_other (h.BK t ht), set_other (h.Bg t ht), h.task t ht]
        simp [upd, ex]
    · rw [set_other (Ne.symm n2), hs]
      exact set_block ((set_other n3).trans h.box) rfl
    · refine ((h.row.pop.behind n (by rw [hs]; exact Nat.le_refl _) _).only (only_setCell _ _ _) (fun hh => n3 hh.symm)).only (only_setCell _ _ _) (fun hh => n1 hh.symm)
    · intro k hk
      rw [hs] at hk
      rw [pop_get _ k (by omega)]
      exact h.mem k (by omega)
    · exact (((only_setCell w _ _).mono (fun _ _ hh => .inr (.inl hh))).step (only_setCell _ _ _) (fun _ _ hh => .inl hh)).step (only_setCell _ _ _) (fun _ _ hh => .inr (.inr ⟨_, mx, hh⟩))
  clear h t1
  generalize B xs[n]! = bx at *
  generalize xs[n]! = x at *
  go_enter Yba.func51, Yba.ntmps51
  go_wp2_with fail
  go_ret
  exact ⟨⟨_, rfl⟩, HW.out⟩

theorem Mv.trans {idx0 idx1 idx2 : Nat → Int} {xs0 xs1 xs2 : Array Nat} {w0 w1 w2 : World} (h : Mv base B m due run K g c idx0 xs0 w0 idx1 xs1 w1) (k : Mv base B m due run K g c idx1 xs1 w1 idx2 xs2 w2) :
    Mv base B m due run K g c idx0 xs0 w0 idx2 xs2 w2 :=
  ⟨k.qs, k.ix, k.pm.trans h.pm, fun t ht => (k.out t (fun hh => ht (h.pm.mem_iff.1 hh))).trans (h.out t ht), h.only.trans k.only⟩

/-- What a removal of task x leaves. -/
def Gone (base : Nat) (B : Nat → Nat) (m : Nat) (due : Nat → Int) (run : Nat → Bool) (idx : Nat → Int) (K : Nat) (xs : Array Nat) (x : Nat) (g c : Nat) (w w' : World) : Prop :=
  ∃ idx' xs', Qs base B m due run idx' K g c xs' w' ∧ (∀ k, k < xs'.size → idx' xs'[k]! = (k : Int)) ∧ xs.toList.Perm (x :: xs'.toList) ∧ IsHeap (ld due) xs'.size xs' ∧ idx' x = -1 ∧
    (∀ t, t ∉ xs.toList → idx' t = idx t) ∧ Only (fun k => k = K ∨ k = g ∨ ∃ t, t < m ∧ k = B t) w w'

theorem gone_of {n x : Nat} {idx1 : Nat → Int} {d : Array Nat} {w1 w2 : World} (hnd : xs.toList.Nodup) (hm : Mv base B m due run K g c idx xs w idx1 d w1) (hn : d.size = n + 1) (hx : d[n]! = x) (hh : IsHeap (ld due) n d)
    (hq : Qs base B m due run (upd idx1 d[n]! (-1)) K g c d.pop w2) (ho : Only (fun k => k = K ∨ k = g ∨ ∃ t, t < m ∧ k = B t) w1 w2) : Gone base B m due run idx K xs x g c w w2 := by
  subst hx
  have nd := hm.nd hnd
  refine ⟨_, _, hq, fun k hk => ?_, hm.pm.symm.trans (pop_perm d n hn), pop_heap d n hn hh, by simp [upd], fun t ht => ?_, (hm.only.mono (fun _ _ hk => .inr hk)).trans ho⟩
  · have hk' : k < n := by simpa [hn] using hk
    rw [pop_get _ k (by omega)]
    have ne : d[k]! ≠ d[n]! := fun e => absurd (nodup_get nd (by omega) (by omega) e) (by omega)
    simp only [upd, if_neg ne]
    exact hm.ix k (by omega)
  · have ne : t ≠ d[n]! := fun e => ht (hm.pm.mem_iff.1 (e ▸ get_mem (by omega)))
    simp only [upd, if_neg ne]
    exact hm.out t ht

set_option maxRecDepth 100000 in
set_option maxHeartbeats 800000 in
theorem remove_any (h : Qs base B m due run idx K g c xs w) (hix : ∀ k, k < xs.size → idx xs[k]! = (k : Int)) (hnd : xs.toList.Nodup) (due0 : Nat → Int) (hh : IsHeap (ld due0) xs.size xs) (i n : Nat) (hn : xs.size = n + 1) (hi : i ≤ n) (hag : ∀ t, t ≠ xs[i]! → due0 t = due t) (hsz : xs.size ≤ 1024) :
    Calls Yba.prog 20 #[.iface 61 (.pointer (some ⟨K, 2, none⟩)), .int .i64 i] w fun e w' => (∃ v, e = .returned v) ∧ Gone base B m due run idx K xs xs[i]! g c w w' := by
  have hag' : Hid (∀ k, k ≤ n → k ≠ i → due0 xs[k]! = due xs[k]!) := fun k hk hki => hag _ (fun e => hki (nodup_get hnd (by omega) (by omega) e))
  clear hag
  have hcell := h.cell
  rw [hn] at hcell
  have hm := method_len ⟨K, 2, none⟩ _ w hcell
  have hms := method_swap ⟨K, 2, none⟩ _ w hcell
  have hmp := method_pop
  clear hcell
  by_cases hin : i = n
  · subst hin
    go_enter Yba.func20, Yba.ntmps20
    go_wp2_with fail
    refine (len_any _ _ _ _).mono ?_
    rintro e w2 ⟨rfl, rfl⟩
    clear hm hms
    go_wp2_with fail
    refine (pop_any h i hn hsz).mono ?_
    rintro e w3 ⟨⟨v, rfl⟩, q3, o3⟩
    have G : Hid (Gone base B m due run idx K xs xs[i]! g c w2 w3) := gone_of hnd (Mv.refl h hix) hn rfl (fun a b hab hb => by have a1 := of_decide_eq_false (hh a b hab (by omega)); have b1 := hag'.out a (by omega) (by omega); have b2 := hag'.out b (by omega) (by omega); exact decide_eq_false (by omega)) q3 o3
    clear q3 o3
    go_wp2_with fail
    go_ret
    exact ⟨⟨_, rfl⟩, G.out⟩
  · have hne : ((n : Int) == (i : Int)) = false := beq_eq_false_iff_ne.2 (by omega)
    go_enter Yba.func20, Yba.ntmps20
    go_wp2_with fail
    refine (len_any _ _ _ _).mono ?_
    rintro e w2 ⟨rfl, rfl⟩
    clear hm
    go_wp2_with fail
    refine (swap_any h _ hn i n _ _ (by omega) (by omega) (by omega) (by omega) (by omega) (fun e => absurd (nodup_get hnd (by omega) (by omega) e) hin)).mono ?_
    rintro e w3 ⟨rfl, q3, o3⟩
    have M3 := (Mv.refl h hix).swap hnd (i := i) (j := n) (by omega) (by omega) hin q3 o3
    clear q3 o3 hms
    have HM3 : Hid _ := M3
    go_wp2_with fail
    refine (down_any HM3.out.qs HM3.out.ix (HM3.out.nd hnd) i n (by omega) (by rw [size_swp]; omega) (by rw [size_swp]; omega)).mono ?_
    rintro e w4 ⟨⟨b, rfl, htold⟩, idx4, M4⟩
    cases b with
    | true =>
      have hc : ∃ k, (k = 2 * i + 1 ∨ k = 2 * i + 2) ∧ k < n ∧ ld due (swp xs i n)[k]! (swp xs i n)[i]! = true := by
        rcases htold with ⟨_, hc⟩ | ⟨hc, _⟩
        · exact hc
        · cases hc
      have R := rm_down xs due due0 n i hn (by omega) hag'.out hh hc
      have L := rm_last xs n i hn _ R.2
      have HM5 : Hid (Mv base B m due run K g c idx xs w2 idx4 _ w4) := HM3.out.trans M4
      have HR : Hid _ := R
      have HL : Hid _ := L
      clear R L M4 htold hc
      go_wp2_with fail
      refine (pop_any HM5.out.qs n HL.out.1 (by rw [HL.out.1]; omega)).mono ?_
      rintro e w5 ⟨⟨v, rfl⟩, q5, o5⟩
      have G : Hid (Gone base B m due run idx K xs xs[i]! g c w2 w5) := gone_of hnd HM5.out HL.out.1 HL.out.2 HR.out.1 q5 o5
      clear q5 o5
      go_wp2_with fail
      go_ret
      exact ⟨⟨_, rfl⟩, G.out⟩
    | false =>
      have hc : heapDown (ld due) n i (swp xs i n) = swp xs i n ∧ ∀ k, (k = 2 * i + 1 ∨ k = 2 * i + 2) → k < n → ld due (swp xs i n)[k]! (swp xs i n)[i]! = false := by
        rcases htold with ⟨hc, _⟩ | ⟨_, hc⟩
        · cases hc
        · exact hc
      rw [hc.1] at M4
      have R := rm_up xs due due0 n i hn (by omega) hag'.out hh hc.2
      have L := rm_last xs n i hn _ R.2
      have HM5 : Hid (Mv base B m due run K g c idx xs w2 idx4 _ w4) := HM3.out.trans M4
      have HR : Hid _ := R
      have HL : Hid _ := L
      clear R L M4 htold hc
      go_wp2_with fail
      refine (up_any HM5.out.qs HM5.out.ix (HM5.out.nd hnd) i (by rw [size_swp]; omega) (by rw [size_swp]; omega)).mono ?_
      rintro e w5 ⟨rfl, idx5, M5⟩
      have HM6 : Hid (Mv base B m due run K g c idx xs w2 idx5 _ w5) := HM5.out.trans M5
      clear M5
      go_wp2_with fail
      refine (pop_any HM6.out.qs n HL.out.1 (by rw [HL.out.1]; omega)).mono ?_
      rintro e w6 ⟨⟨v, rfl⟩, q5, o5⟩
      have G : Hid (Gone base B m due run idx K xs xs[i]! g c w2 w6) := gone_of hnd HM6.out HL.out.1 HL.out.2 HR.out.1 q5 o5
      clear q5 o5
      go_wp2_with fail
      go_ret
      exact ⟨⟨_, rfl⟩, G.out⟩
end Go.Proofs.Ybulkakaw
