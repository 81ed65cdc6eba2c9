import Derived.Test.YbulkajnyConfine
namespace Go.Proofs.Ybulkajny
set_option linter.unusedSimpArgs false
open Go.RowKit Go.Sort
section
variable {w0 w w' : World} {R0 : Nat → Row} {E : Option (Nat × Obj)} {n K : Nat} {b : Nat → Nat} {c : CS}

theorem Cf.congr {R R' : Nat → Row} (h : Cf R n K b c) (hK : K ≤ 200) (he : ∀ i, Cset i → R' i = R i) : Cf R' n K b c := by
  refine ⟨?_, ?_, ?_, ?_, fun k hk => ?_, fun k hk => ?_⟩
  · rw [he 3 (.inl rfl), h.r3]
    simp only [Row.mk.injEq, true_and]
    exact tab_congr (fun j hj => by rw [he _ (cset_rs (by omega))])
  · rw [he 4 (.inr (.inl rfl)), h.r4]
    simp only [Row.mk.injEq, true_and]
    exact tab_congr (fun j hj => by rw [he _ (cset_ws (by omega))])
  · rw [he 5 (.inr (.inr (.inl rfl)))]; exact h.r5
  · rw [he 7 (.inr (.inr (.inr (.inl rfl))))]; exact h.r7
  · rw [he _ (cset_rs (by omega))]; exact h.rs k hk
  · rw [he _ (cset_ws (by omega))]; exact h.ws k hk
theorem RW.congr {R R' : Nat → Row} {rds wrs : Nat → List Nat} (h : RW R n K b rds wrs) (he : ∀ i, (i = 1 ∨ i = 2 ∨ (100 ≤ i ∧ (i % 4 = 0 ∨ i % 4 = 1))) → R' i = R i) : RW R' n K b rds wrs := by
  refine ⟨?_, ?_, fun i hi => ?_, fun i hi => ?_, h.rk, h.wk, h.rl, h.wl⟩
  · rw [he 1 (.inl rfl), h.r1]
    simp only [Row.mk.injEq, true_and]
    exact tab_congr (fun j hj => by rw [he _ (by omega)])
  · rw [he 2 (.inr (.inl rfl)), h.r2]
    simp only [Row.mk.injEq, true_and]
    exact tab_congr (fun j hj => by rw [he _ (by omega)])
  · rw [he _ (by omega)]; exact h.rd i hi
  · rw [he _ (by omega)]; exact h.wr i hi
theorem nset_rd {i : Nat} : ¬ Cset (100 + 4 * i) := by unfold Cset; omega
theorem nset_wr {i : Nat} : ¬ Cset (101 + 4 * i) := by unfold Cset; omega

set_option maxRecDepth 100000 in
set_option maxHeartbeats 4000000 in
theorem confine_any {R : Nat → Row} {G st : Nat} {gx : List Value} {rds wrs : Nat → List Nat} {set : List Nat} {B0 : Nat} {ps : Option Nat} {qs : Nat} (h : Fam w0 w R E) (hg : Gs R n K G b gx st) (hc : Cf R n K b c) (hrw : RW R n K b rds wrs)
    (hset : R 20 = ⟨ps, qs, 21, 1, set.length, set.map i32⟩) (hsl : set.length ≤ 100) (hsn : ∀ t, t ∈ set → t < n) (hst : st ≤ 1000) (hK : K ≤ 200) (hB : LenB c B0) (hB0 : B0 ≤ 500000) :
    Calls Yba.prog 26 #[.pointer (some ⟨G, 0, none⟩), .slice (ps.map fun b => ⟨b, 0, none⟩) set.length qs] w fun e w' => e = .returned (i32 (st + 1)) ∧
      ∃ R' gx', Fam w0 w' R' E ∧ Gs R' n K G b gx' (st + 1) ∧ Cf R' n K b (set.foldl (confT (st + 1) rds wrs) c) ∧ LenB (set.foldl (confT (st + 1) rds wrs) c) (B0 + 1200 * set.length) ∧ (∀ i, ¬ Cset i → i ≠ 0 → i ≠ 32 → R' i = R i) := by
  obtain ⟨i0, hi0, hz0, hz1, hz2⟩ := info_parts info21
  have n0 : ¬ Cset 0 := by unfold Cset; omega
  have n1 : ¬ Cset 1 := by unfold Cset; omega
  have n2 : ¬ Cset 2 := by unfold Cset; omega
  have n20 : ¬ Cset 20 := by unfold Cset; omega
  have n32 : ¬ Cset 32 := by unfold Cset; omega
  -- the box, and the stamp
  have h1 := h.make (i := 32) #[.pointer (some ⟨G, 0, none⟩)] 44 1 1 rfl (by unfold maxLen; omega)
  have e0 : put R 32 ⟨some w.heap.size, 1, 44, 1, 1, [.pointer (some ⟨G, 0, none⟩)]⟩ 0 = ⟨some G, 1, 49, 15, 1, gx⟩ := by rw [put_ne (by omega), hg.g0]
  have h2 := h1.set (i := 0) (b := G) (j := 6) (v := i32 (st + 1)) (by rw [e0])
  rw [e0] at h2
  have hgl : gx.length = 15 := by have := (h.ok 0).length; rw [hg.g0] at this; exact this
  have hg2 : Gs (put (put R 32 ⟨some w.heap.size, 1, 44, 1, 1, [.pointer (some ⟨G, 0, none⟩)]⟩) 0 ⟨some G, 1, 49, 15, 1, gx.set 6 (i32 (st + 1))⟩) n K G b (gx.set 6 (i32 (st + 1))) (st + 1) := by
    refine ⟨put_eq, ?_, ?_, ?_, ?_, ?_, ?_, ?_, ?_, ?_, ?_⟩
    · rw [List.getElem?_set_ne (by omega)]; exact hg.x0
    · rw [List.getElem?_set_ne (by omega)]; exact hg.x1
    · rw [List.getElem?_set_ne (by omega)]; exact hg.x3
    · rw [List.getElem?_set_ne (by omega)]; exact hg.x4
    · rw [List.getElem?_set_ne (by omega)]; exact hg.x5
    · simp [hgl]
    · rw [List.getElem?_set_ne (by omega)]; exact hg.x7
    · rw [List.getElem?_set_ne (by omega)]; exact hg.x8
    · rw [List.getElem?_set_ne (by omega)]; exact hg.x9
    · rw [List.getElem?_set_ne (by omega)]; exact hg.x10
  have hcG : (w.alloc (.cells #[.pointer (some ⟨G, 0, none⟩)] 44)).cell? ⟨G, 6, none⟩ = some (i32 st) := h1.cell (i := 0) (by rw [e0]) (by rw [e0]; exact hg.x6)
  have hfG : (w.alloc (.cells #[.pointer (some ⟨G, 0, none⟩)] 44)).frozen? ⟨G, 6, none⟩ = false := h1.free (i := 0) (by rw [e0]) 6
  have hcB : (w.alloc (.cells #[.pointer (some ⟨G, 0, none⟩)] 44)).cell? ⟨w.heap.size, 0, none⟩ = some (.pointer (some ⟨G, 0, none⟩)) := h1.cell (i := 32) (by rw [put_eq]) (by rw [put_eq]; rfl)
  have hw1 : IntKind.i32.wrap ((st : Int) + 1) = (st : Int) + 1 := by rw [IntKind.wrap_i32]; omega
  have HT : Hid (∃ R1, (Fam w0 ((w.alloc (.cells #[.pointer (some ⟨G, 0, none⟩)] 44)).setCell ⟨G, 6, none⟩ (.int .i32 ((st : Int) + 1))) R1 E) ∧ R1 32 = ⟨some w.heap.size, 1, 44, 1, 1, [.pointer (some ⟨G, 0, none⟩)]⟩ ∧ Gs R1 n K G b (gx.set 6 (i32 (st + 1))) (st + 1) ∧ ∀ i, i ≠ 0 → i ≠ 32 → R1 i = R i) :=
    ⟨_, h2, by rw [put_ne (by omega), put_eq], hg2, fun i h1 h2 => by rw [put_ne h1, put_ne h2]⟩
  clear h1 h2 hg2 e0 hgl
  go_enter Yba.func26, Yba.ntmps26
  refine wp_seq_k (fun K1 hK => ?_)
  have HK1 : Hid _ := hK
  clear hK
  go_wp2_with fail
  refine HK1.out _ _ ?_
  clear HK1
  refine wp_seq_k (fun K1 hK => ?_)
  have HK1 : Hid _ := hK
  clear hK
  go_wp2_with fail
  refine HK1.out _ _ ?_
  clear HK1 hcB hcG hfG hw1
  obtain ⟨R1, h1, hb32, hg1, hR1⟩ := HT.out
  clear HT
  generalize (w.alloc (.cells #[.pointer (some ⟨G, 0, none⟩)] 44)).setCell ⟨G, 6, none⟩ (.int .i32 ((st : Int) + 1)) = w1 at *
  generalize w.heap.size = B at *
  have hC : Cj w0 w1 R1 E n K b c := ⟨R1, h1, hc.congr hK (fun i hi => hR1 i (fun e => n0 (e ▸ hi)) (fun e => n32 (e ▸ hi))), fun _ _ => rfl⟩
  have hrw1 : RW R1 n K b rds wrs := hrw.congr (fun i hi => hR1 i (by omega) (by omega))
  have hset1 : R1 20 = ⟨ps, qs, 21, 1, set.length, set.map i32⟩ := (hR1 20 (by omega) (by omega)).trans hset
  have HR1 : Hid (∀ i, i ≠ 0 → i ≠ 32 → R1 i = R i) := hR1
  clear h hg hc hrw hset h1 hR1
  go_wp2_with fail
  go_loopg [22] set.length (fun q s22 wx => ∃ j : Nat, s22 = .int .i64 j ∧ j ≤ set.length ∧ set.length - j ≤ q ∧ Cj w0 wx R1 E n K b ((set.take j).foldl (confT (st + 1) rds wrs) c) ∧ LenB ((set.take j).foldl (confT (st + 1) rds wrs) c) (B0 + 1200 * j))
  case atStart => exact ⟨0, rfl, Nat.zero_le _, Nat.le_refl _, hC, hB⟩
  case round =>
    obtain ⟨j, rfl, hjl, hjq, hCj, hLj⟩ := hrel
    by_cases hj : j < set.length
    · obtain ⟨t, ht⟩ : ∃ t, set[j]? = some t := ⟨set[j], List.getElem?_eq_getElem hj⟩
      have htm : t ∈ set := List.mem_of_getElem? ht
      have htn := hsn t htm
      obtain ⟨gs, rfl⟩ : ∃ g, ps = some g := by
        have := hCj.ok n20
        rw [hset1] at this
        exact this.at ht
      have hct : wr.cell? ⟨gs, j, none⟩ = some (i32 t) := hCj.cell n20 (by rw [hset1]) (by rw [hset1]; simp [ht])
      have HN : Hid ((set.take (j + 1)).foldl (confT (st + 1) rds wrs) c = confT (st + 1) rds wrs ((set.take j).foldl (confT (st + 1) rds wrs) c) t) := by
        show _ = _
        rw [List.take_add_one, ht]
        simp
      generalize (set.take j).foldl (confT (st + 1) rds wrs) c = c1 at *
      have j1 : (j : Int) < (set.length : Int) := by omega
      have j2 : (t : Int) < (n : Int) := by omega
      have hgB : wr.cell? ⟨B, 0, none⟩ = some (.pointer (some ⟨G, 0, none⟩)) := hCj.cell n32 (by rw [hb32]) (by rw [hb32]; rfl)
      have hg7 : wr.cell? ⟨G, 7, none⟩ = some (.slice (some ⟨b 7, 0, none⟩) n n) := hCj.cell n0 (by rw [hg1.g0]) (by rw [hg1.g0]; exact hg1.x7)
      have hg6 : wr.cell? ⟨G, 6, none⟩ = some (i32 (st + 1)) := hCj.cell n0 (by rw [hg1.g0]) (by rw [hg1.g0]; exact hg1.x6)
      obtain ⟨⟨xm, hm⟩, fm⟩ := hCj.mem htn
      have HC1 : Hid (Cj w0 (wr.setCell ⟨b 7, t, none⟩ (.int .i32 ((st : Int) + 1))) R1 E n K b c1) := hCj.setM t _
      go_wp2_with fail
      go_region
      clear hgB hg7 hg6 hm fm hct
      generalize wr.setCell ⟨b 7, t, none⟩ (.int .i32 ((st : Int) + 1)) = w2 at *
      have hC2 := HC1.out
      clear HC1 hCj
      have hgB : w2.cell? ⟨B, 0, none⟩ = some (.pointer (some ⟨G, 0, none⟩)) := hC2.cell n32 (by rw [hb32]) (by rw [hb32]; rfl)
      have hg0 : w2.cell? ⟨G, 0, none⟩ = some (.slice (some ⟨b 1, 0, none⟩) n n) := hC2.cell n0 (by rw [hg1.g0]) (by rw [hg1.g0]; exact hg1.x0)
      obtain ⟨p1, q1, hrow1⟩ := hrw1.rd t htn
      have hr1 : w2.cell? ⟨b 1, t, none⟩ = some (.slice (p1.map fun b => ⟨b, 0, none⟩) (rds t).length q1) := by
        have := hC2.cell n1 (by rw [hrw1.r1]) (by rw [hrw1.r1]; exact tab_get htn)
        rw [hrow1] at this
        exact this
      go_wp2_with fail
      have hLt : LenB c1 (B0 + 1200 * j + 0) := hLj
      have HD : Hid (rds t = rds t) := rfl
      go_loopg [44] (rds t).length (fun q s44 wx => ∃ i : Nat, s44 = .int .i64 i ∧ i ≤ (rds t).length ∧ (rds t).length - i ≤ q ∧ Cj w0 wx R1 E n K b (((rds t).take i).foldl (confR (st + 1) t) c1) ∧ LenB (((rds t).take i).foldl (confR (st + 1) t) c1) (B0 + 1200 * j + i))
      case atStart => exact ⟨0, rfl, Nat.zero_le _, Nat.le_refl _, by first | exact hC2.drew | exact hC2, hLt⟩
      case round =>
        obtain ⟨i, rfl, hil, hiq, hCi, hLi⟩ := hrel
        by_cases hi : i < (rds t).length
        · obtain ⟨k, hk⟩ : ∃ k, (rds t)[i]? = some k := ⟨(rds t)[i], List.getElem?_eq_getElem hi⟩
          have hkK := hrw1.rk t htn k (List.mem_of_getElem? hk)
          obtain ⟨g1, rfl⟩ : ∃ g, p1 = some g := by
            have := hCi.ok (i := 100 + 4 * t) nset_rd
            rw [hrow1] at this
            exact this.at hk
          have hck : wr.cell? ⟨g1, i, none⟩ = some (i32 k) := hCi.cell (i := 100 + 4 * t) nset_rd (by rw [hrow1]) (by rw [hrow1]; simp [hk])
          have HN2 : Hid (((rds t).take (i + 1)).foldl (confR (st + 1) t) c1 = confR (st + 1) t (((rds t).take i).foldl (confR (st + 1) t) c1) k) := by
            show _ = _
            rw [List.take_add_one, hk]
            simp
          generalize ((rds t).take i).foldl (confR (st + 1) t) c1 = c2 at *
          have i1 : (i : Int) < ((rds t).length : Int) := by omega
          have hrlt := hrw1.rl t htn
          go_wp2_with fail
          refine (start_any hg1 hb32 hCi hkK hK).mono ?_
          rintro e w3 ⟨rfl, hC3⟩
          obtain ⟨R3, p3, q3, h3, hrow3, hblk3, hc3, hR3, hA⟩ := hC3.readyR hkK hK t
          have hl3 : ((startC (st + 1) k c2).rl k).length ≤ 1000000 := by
            have := (rl_len_start (st + 1) k c2 k).1
            have := (hLi k).1
            have := hrw1.rl t htn
            omega
          have HA : Hid _ := hA
          have HROW : Hid (R3 (102 + 4 * k) = _) := hrow3
          have cB3 : w3.cell? ⟨B, 0, none⟩ = some (.pointer (some ⟨G, 0, none⟩)) := hC3.cell n32 (by rw [hb32]) (by rw [hb32]; rfl)
          have cG3 : w3.cell? ⟨G, 3, none⟩ = some (.slice (some ⟨b 3, 0, none⟩) K K) := hC3.cell n0 (by rw [hg1.g0]) (by rw [hg1.g0]; exact hg1.x3)
          have HEB : Hid ((R1 32).blk = some B ∧ (R1 32).xs[0]? = some (.pointer (some ⟨G, 0, none⟩)) ∧ (R1 0).blk = some G ∧ (R1 0).xs[3]? = some (.slice (some ⟨b 3, 0, none⟩) K K)) := ⟨by rw [hb32], by rw [hb32]; rfl, by rw [hg1.g0], by rw [hg1.g0]; exact hg1.x3⟩
          have e3 : b 3 ≠ B := h3.ne hblk3 (by rw [hR3 32 n32, hb32]) (by omega)
          have e4 : b 3 ≠ G := h3.ne hblk3 (by rw [hR3 0 n0, hg1.g0]) (by omega)
          have hk1 : (k : Int) < (K : Int) := by omega
          clear hA hrow3 hR3 hblk3 hck hr1 hg0 hgB hC2
          generalize ((startC (st + 1) k c2).rl k).length = L3 at *
          generalize ((startC (st + 1) k c2).rl k).map i32 = X3 at *
          have cA3 : ∀ o, (w3.alloc o).cell? ⟨b 3, k, none⟩ = some (.slice (p3.map fun b => (⟨b, 0, none⟩ : Addr)) L3 q3) := fun o => ((only_alloc w3 o).cell (p := ⟨b 3, k, none⟩) (World.block_lt_of_cell? w3 _ hc3) (fun hf => hf)).trans hc3
          go_wp2_with fail
          refine wp_region_noPanic ?_
          refine wp_region_held_drew (S := (fun w' => w'.cell? ⟨B, 0, none⟩ = some (.pointer (some ⟨G, 0, none⟩)) ∧ w'.cell? ⟨G, 3, none⟩ = some (.slice (some ⟨b 3, 0, none⟩) K K))) (by kernel_rfl) ?_ (fun hHeld => ?_)
          · ((try dsimp only); go_keep)
          refine wpAnyH_take (i := 0) (v := ?_) rfl (by kernel_rfl) (by kernel_rfl) (by kernel_rfl) (fun _ _ _ h => h) (Or.inl ⟨by rfl, ?_⟩) (by assumption) ?_
          rotate_left
          · (intro w hSw; (try dsimp only at hSw); (try simp only [List.getElem_toArray, List.getElem_cons_zero, List.getElem_cons_succ]); go_simp; (try with_reducible rfl))
          (try simp only [Act.put, List.setIfInBounds_toArray, List.set_cons_zero, List.set_cons_succ, List.getElem_toArray, List.getElem_cons_zero, List.getElem_cons_succ])
          refine wpAnyH_take (i := 1) (v := ?_) rfl (by kernel_rfl) (by kernel_rfl) (by kernel_rfl) (fun _ _ _ h => h) (Or.inl ⟨by rfl, ?_⟩) (by assumption) ?_
          rotate_left
          · (intro w hSw; (try dsimp only at hSw); (try simp only [List.getElem_toArray, List.getElem_cons_zero, List.getElem_cons_succ]); go_simp; (try with_reducible rfl))
          (try simp only [Act.put, List.setIfInBounds_toArray, List.set_cons_zero, List.set_cons_succ, List.getElem_toArray, List.getElem_cons_zero, List.getElem_cons_succ])
          refine wpAnyH_take (i := 2) (v := ?_) rfl (by kernel_rfl) (by kernel_rfl) (by kernel_rfl) (fun _ _ _ h => h) (Or.inl ⟨by rfl, ?_⟩) (by assumption) ?_
          rotate_left
          · (intro w hSw; (try dsimp only at hSw); (try simp only [List.getElem_toArray, List.getElem_cons_zero, List.getElem_cons_succ]); go_simp; (try with_reducible rfl))
          (try simp only [Act.put, List.setIfInBounds_toArray, List.set_cons_zero, List.set_cons_succ, List.getElem_toArray, List.getElem_cons_zero, List.getElem_cons_succ])
          refine wpAnyH_take (i := 3) (v := ?_) rfl (by kernel_rfl) (by kernel_rfl) (by kernel_rfl) (fun _ _ _ h => h) (Or.inl ⟨by rfl, ?_⟩) (by assumption) ?_
          rotate_left
          · (intro w hSw; (try dsimp only at hSw); (try simp only [List.getElem_toArray, List.getElem_cons_zero, List.getElem_cons_succ]); go_simp; (try with_reducible rfl))
          (try simp only [Act.put, List.setIfInBounds_toArray, List.set_cons_zero, List.set_cons_succ, List.getElem_toArray, List.getElem_cons_zero, List.getElem_cons_succ])
          refine wpAnyH_take (i := 4) (v := ?_) rfl (by kernel_rfl) (by kernel_rfl) (by kernel_rfl) (fun _ _ _ h => h) (Or.inl ⟨by rfl, ?_⟩) (by assumption) ?_
          rotate_left
          · (intro w hSw; (try dsimp only at hSw); (try simp only [List.getElem_toArray, List.getElem_cons_zero, List.getElem_cons_succ]); go_simp; (try with_reducible rfl))
          (try simp only [Act.put, List.setIfInBounds_toArray, List.set_cons_zero, List.set_cons_succ, List.getElem_toArray, List.getElem_cons_zero, List.getElem_cons_succ])
          refine wpAnyH_take (i := 5) (v := ?_) rfl (by kernel_rfl) (by kernel_rfl) (by kernel_rfl) (fun _ _ _ h => h) (Or.inl ⟨by rfl, ?_⟩) (by assumption) ?_
          rotate_left
          · (intro w hSw; (try dsimp only at hSw); (try simp only [List.getElem_toArray, List.getElem_cons_zero, List.getElem_cons_succ]); go_simp; (try with_reducible rfl))
          (try simp only [Act.put, List.setIfInBounds_toArray, List.set_cons_zero, List.set_cons_succ, List.getElem_toArray, List.getElem_cons_zero, List.getElem_cons_succ])
          refine wpAnyH_take (i := 6) (v := ?_) rfl (by kernel_rfl) (by kernel_rfl) (by kernel_rfl) (fun _ _ _ h => h) (Or.inl ⟨by rfl, ?_⟩) (by assumption) ?_
          rotate_left
          · (intro w hSw; (try dsimp only at hSw); (try simp only [List.getElem_toArray, List.getElem_cons_zero, List.getElem_cons_succ]); go_simp; (try with_reducible rfl))
          (try simp only [Act.put, List.setIfInBounds_toArray, List.set_cons_zero, List.set_cons_succ, List.getElem_toArray, List.getElem_cons_zero, List.getElem_cons_succ])
          refine wpAnyH_take (i := 7) (v := ?_) rfl (by kernel_rfl) (by kernel_rfl) (by kernel_rfl) (fun _ _ _ h => h) (Or.inl ⟨by rfl, ?_⟩) (by assumption) ?_
          rotate_left
          · (intro w hSw; (try dsimp only at hSw); (try simp only [List.getElem_toArray, List.getElem_cons_zero, List.getElem_cons_succ]); go_simp; (try with_reducible rfl))
          (try simp only [Act.put, List.setIfInBounds_toArray, List.set_cons_zero, List.set_cons_succ, List.getElem_toArray, List.getElem_cons_zero, List.getElem_cons_succ])
          refine wpAnyH_take (i := 8) (v := ?_) rfl (by kernel_rfl) (by kernel_rfl) (by kernel_rfl) (fun _ _ _ h => h) (Or.inl ⟨by rfl, ?_⟩) (by assumption) ?_
          rotate_left
          · (intro w hSw; (try dsimp only at hSw); (try simp only [List.getElem_toArray, List.getElem_cons_zero, List.getElem_cons_succ]); go_simp; (try with_reducible rfl))
          (try simp only [Act.put, List.setIfInBounds_toArray, List.set_cons_zero, List.set_cons_succ, List.getElem_toArray, List.getElem_cons_zero, List.getElem_cons_succ])
          refine wpAnyH_take (i := 9) (v := ?_) rfl (by kernel_rfl) (by kernel_rfl) (by kernel_rfl) (fun _ _ _ h => h) (Or.inl ⟨by rfl, ?_⟩) (by assumption) ?_
          rotate_left
          · (intro w hSw; (try dsimp only at hSw); (try simp only [List.getElem_toArray, List.getElem_cons_zero, List.getElem_cons_succ]); go_simp; (try with_reducible rfl))
          (try simp only [Act.put, List.setIfInBounds_toArray, List.set_cons_zero, List.set_cons_succ, List.getElem_toArray, List.getElem_cons_zero, List.getElem_cons_succ])
          refine wpAnyH_take (i := 10) (v := ?_) rfl (by kernel_rfl) (by kernel_rfl) (by kernel_rfl) (fun _ _ _ h => h) (Or.inl ⟨by rfl, ?_⟩) (by assumption) ?_
          rotate_left
          · (intro w hSw; (try dsimp only at hSw); (try simp only [List.getElem_toArray, List.getElem_cons_zero, List.getElem_cons_succ]); go_simp; (try with_reducible rfl))
          (try simp only [Act.put, List.setIfInBounds_toArray, List.set_cons_zero, List.set_cons_succ, List.getElem_toArray, List.getElem_cons_zero, List.getElem_cons_succ])
          refine wpAnyH_take (i := 12) (v := ?_) rfl (by kernel_rfl) (by kernel_rfl) (by kernel_rfl) (fun _ _ _ h => h) (Or.inl ⟨by rfl, ?_⟩) (by assumption) ?_
          rotate_left
          · (intro w hSw; (try dsimp only at hSw); (try simp only [List.getElem_toArray, List.getElem_cons_zero, List.getElem_cons_succ]); go_simp; (try with_reducible rfl))
          (try simp only [Act.put, List.setIfInBounds_toArray, List.set_cons_zero, List.set_cons_succ, List.getElem_toArray, List.getElem_cons_zero, List.getElem_cons_succ])
          refine wpAnyH_ready (rs := [11, 13]) (by kernel_rfl) (by simp) ?_
          refine AllReadyH.cons rfl (fun K hK => ?_) ?_
          · (try simp only [List.getElem_toArray, List.getElem_cons_zero, List.getElem_cons_succ])
            go_simp
            refine hK.out _ _ ?_ (fun hHeld => ?_)
            · ((try dsimp only); go_keep)
            clear hK
            (try simp only [Act.put, List.setIfInBounds_toArray, List.set_cons_zero, List.set_cons_succ, List.getElem_toArray, List.getElem_cons_zero, List.getElem_cons_succ])
            refine wpAnyH_ready (rs := [13]) (by kernel_rfl) (by simp) ?_
            refine AllReadyH.cons rfl (fun K hK => ?_) ?_
            · (try simp only [List.getElem_toArray, List.getElem_cons_zero, List.getElem_cons_succ])
              go_simp
              refine hK.out _ _ ?_ (fun hHeld => ?_)
              · ((try dsimp only); go_keep)
              clear hK
              (try simp only [Act.put, List.setIfInBounds_toArray, List.set_cons_zero, List.set_cons_succ, List.getElem_toArray, List.getElem_cons_zero, List.getElem_cons_succ])
              refine wpAnyH_ready (rs := [14]) (by kernel_rfl) (by simp) ?_
              refine AllReadyH.cons rfl (fun K hK => ?_) ?_
              · ((refine step_fam_app (by rfl) _ _ _ (by rfl) 21 i0 _ 1 4 Yba.underlying22 hi0 hz0 hz1 hz2 rfl (by omega) (by omega) R3 (102 + 4 * k) p3 q3 L3 X3 HROW.out (by first | exact (h3.alloc _).drew | exact h3.drew.alloc _) (by rfl) hl3 ⟨w3.heap.size, 0, none⟩ 1 [i32 t] (by rfl) (by rfl) (World.news_of_block (cs := #[i32 t]) (t := 21) (fr := (0, 0)) (heap_alloc_new w3 _)) (by simp [Value.oneCell']) ?_; intro gg cap w4 h4; obtain ⟨z1, z2, z3, z4⟩ := HA.out gg cap w4 h4; have y1 := z3 32 B 0 _ n32 HEB.out.1 HEB.out.2.1; have y2 := z3 0 G 3 _ n0 HEB.out.2.2.1 HEB.out.2.2.2; clear z3))
                refine hK.out _ _ ?_ (fun hHeld => ?_)
                · ((try dsimp only); go_keep)
                clear hK
                (try simp only [Act.put, List.setIfInBounds_toArray, List.set_cons_zero, List.set_cons_succ, List.getElem_toArray, List.getElem_cons_zero, List.getElem_cons_succ])
                refine wpAnyH_take (i := 15) (v := ?_) rfl (by kernel_rfl) (by kernel_rfl) (by kernel_rfl) (fun _ _ _ h => h) (Or.inl ⟨by rfl, ?_⟩) (by assumption) ?_
                rotate_left
                · (intro w hSw; (try dsimp only at hSw); (try simp only [List.getElem_toArray, List.getElem_cons_zero, List.getElem_cons_succ]); go_simp; (try with_reducible rfl))
                (try simp only [Act.put, List.setIfInBounds_toArray, List.set_cons_zero, List.set_cons_succ, List.getElem_toArray, List.getElem_cons_zero, List.getElem_cons_succ])
                refine wpAnyH_ready (rs := [16]) (by kernel_rfl) (by simp) ?_
                refine AllReadyH.cons rfl (fun K hK => ?_) ?_
                · (try simp only [List.getElem_toArray, List.getElem_cons_zero, List.getElem_cons_succ])
                  go_simp
                  refine hK.out _ _ ?_ (fun hHeld => ?_)
                  · ((try dsimp only); go_keep)
                  clear hK
                  (try simp only [Act.put, List.setIfInBounds_toArray, List.set_cons_zero, List.set_cons_succ, List.getElem_toArray, List.getElem_cons_zero, List.getElem_cons_succ])
                  refine wpAnyH_done (by kernel_rfl) ?_ _
                  refine NoPanic.normal ?_
                  have HZ : Hid _ := z4
                  clear z1 z2 z4 y1 y2
                  go_wp2_with fail
                  go_roundg ((rds t).length - (i + 1))
                  case measure => omega
                  case rel => exact ⟨i + 1, by go_num, by omega, by omega, by rw [HN2.out]; exact HZ.out, by rw [HN2.out]; exact hLi.confR⟩
                exact AllReadyH.nil
              exact AllReadyH.nil
            exact AllReadyH.nil
          refine AllReadyH.cons rfl (fun K hK => ?_) ?_
          · (try simp only [List.getElem_toArray, List.getElem_cons_zero, List.getElem_cons_succ])
            go_simp
            refine hK.out _ _ ?_ (fun hHeld => ?_)
            · ((try dsimp only); go_keep)
            clear hK
            (try simp only [Act.put, List.setIfInBounds_toArray, List.set_cons_zero, List.set_cons_succ, List.getElem_toArray, List.getElem_cons_zero, List.getElem_cons_succ])
            refine wpAnyH_ready (rs := [11]) (by kernel_rfl) (by simp) ?_
            refine AllReadyH.cons rfl (fun K hK => ?_) ?_
            · (try simp only [List.getElem_toArray, List.getElem_cons_zero, List.getElem_cons_succ])
              go_simp
              refine hK.out _ _ ?_ (fun hHeld => ?_)
              · ((try dsimp only); go_keep)
              clear hK
              (try simp only [Act.put, List.setIfInBounds_toArray, List.set_cons_zero, List.set_cons_succ, List.getElem_toArray, List.getElem_cons_zero, List.getElem_cons_succ])
              refine wpAnyH_ready (rs := [14]) (by kernel_rfl) (by simp) ?_
              refine AllReadyH.cons rfl (fun K hK => ?_) ?_
              · ((refine step_fam_app (by rfl) _ _ _ (by rfl) 21 i0 _ 1 4 Yba.underlying22 hi0 hz0 hz1 hz2 rfl (by omega) (by omega) R3 (102 + 4 * k) p3 q3 L3 X3 HROW.out (by first | exact (h3.alloc _).drew | exact h3.drew.alloc _) (by rfl) hl3 ⟨w3.heap.size, 0, none⟩ 1 [i32 t] (by rfl) (by rfl) (World.news_of_block (cs := #[i32 t]) (t := 21) (fr := (0, 0)) (heap_alloc_new w3 _)) (by simp [Value.oneCell']) ?_; intro gg cap w4 h4; obtain ⟨z1, z2, z3, z4⟩ := HA.out gg cap w4 h4; have y1 := z3 32 B 0 _ n32 HEB.out.1 HEB.out.2.1; have y2 := z3 0 G 3 _ n0 HEB.out.2.2.1 HEB.out.2.2.2; clear z3))
                refine hK.out _ _ ?_ (fun hHeld => ?_)
                · ((try dsimp only); go_keep)
                clear hK
                (try simp only [Act.put, List.setIfInBounds_toArray, List.set_cons_zero, List.set_cons_succ, List.getElem_toArray, List.getElem_cons_zero, List.getElem_cons_succ])
                refine wpAnyH_take (i := 15) (v := ?_) rfl (by kernel_rfl) (by kernel_rfl) (by kernel_rfl) (fun _ _ _ h => h) (Or.inl ⟨by rfl, ?_⟩) (by assumption) ?_
                rotate_left
                · (intro w hSw; (try dsimp only at hSw); (try simp only [List.getElem_toArray, List.getElem_cons_zero, List.getElem_cons_succ]); go_simp; (try with_reducible rfl))
                (try simp only [Act.put, List.setIfInBounds_toArray, List.set_cons_zero, List.set_cons_succ, List.getElem_toArray, List.getElem_cons_zero, List.getElem_cons_succ])
                refine wpAnyH_ready (rs := [16]) (by kernel_rfl) (by simp) ?_
                refine AllReadyH.cons rfl (fun K hK => ?_) ?_
                · (try simp only [List.getElem_toArray, List.getElem_cons_zero, List.getElem_cons_succ])
                  go_simp
                  refine hK.out _ _ ?_ (fun hHeld => ?_)
                  · ((try dsimp only); go_keep)
                  clear hK
                  (try simp only [Act.put, List.setIfInBounds_toArray, List.set_cons_zero, List.set_cons_succ, List.getElem_toArray, List.getElem_cons_zero, List.getElem_cons_succ])
                  refine wpAnyH_done (by kernel_rfl) ?_ _
                  refine NoPanic.normal ?_
                  have HZ : Hid _ := z4
                  clear z1 z2 z4 y1 y2
                  go_wp2_with fail
                  go_roundg ((rds t).length - (i + 1))
                  case measure => omega
                  case rel => exact ⟨i + 1, by go_num, by omega, by omega, by rw [HN2.out]; exact HZ.out, by rw [HN2.out]; exact hLi.confR⟩
                exact AllReadyH.nil
              exact AllReadyH.nil
            exact AllReadyH.nil
          exact AllReadyH.nil
        · obtain rfl : i = (rds t).length := by omega
          rw [List.take_length] at hCi hLi
          have i1 : ¬ ((rds t).length : Int) < ((rds t).length : Int) := by omega
          generalize hcm : (rds t).foldl (confR (st + 1) t) c1 = cm at *
          have hgB : wr.cell? ⟨B, 0, none⟩ = some (.pointer (some ⟨G, 0, none⟩)) := hCi.cell n32 (by rw [hb32]) (by rw [hb32]; rfl)
          have hg0 : wr.cell? ⟨G, 1, none⟩ = some (.slice (some ⟨b 2, 0, none⟩) n n) := hCi.cell n0 (by rw [hg1.g0]) (by rw [hg1.g0]; exact hg1.x1)
          obtain ⟨p2, q2, hrow2⟩ := hrw1.wr t htn
          have hr1 : wr.cell? ⟨b 2, t, none⟩ = some (.slice (p2.map fun b => ⟨b, 0, none⟩) (wrs t).length q2) := by
            have := hCi.cell n2 (by rw [hrw1.r2]) (by rw [hrw1.r2]; exact tab_get htn)
            rw [hrow2] at this
            exact this
          have hLs : LenB cm (B0 + 1200 * j + 600 + 0) := hLi.mono (by have := hrw1.rl t htn; omega)
          have HCM : Hid _ := hcm
          clear hcm hC2
          go_wp2_with fail
          go_loopg [76] (wrs t).length (fun q s76 wx => ∃ i : Nat, s76 = .int .i64 i ∧ i ≤ (wrs t).length ∧ (wrs t).length - i ≤ q ∧ Cj w0 wx R1 E n K b (((wrs t).take i).foldl (confW (st + 1) t) cm) ∧ LenB (((wrs t).take i).foldl (confW (st + 1) t) cm) (B0 + 1200 * j + 600 + i))
          case atStart => exact ⟨0, rfl, Nat.zero_le _, Nat.le_refl _, by first | exact hCi.drew | exact hCi, hLs⟩
          case round =>
            clear hCi hLi
            obtain ⟨i, rfl, hil, hiq, hCi, hLi⟩ := hrel
            by_cases hi : i < (wrs t).length
            · obtain ⟨k, hk⟩ : ∃ k, (wrs t)[i]? = some k := ⟨(wrs t)[i], List.getElem?_eq_getElem hi⟩
              have hkK := hrw1.wk t htn k (List.mem_of_getElem? hk)
              obtain ⟨g1, rfl⟩ : ∃ g, p2 = some g := by
                have := hCi.ok (i := 101 + 4 * t) nset_wr
                rw [hrow2] at this
                exact this.at hk
              have hck : wr.cell? ⟨g1, i, none⟩ = some (i32 k) := hCi.cell (i := 101 + 4 * t) nset_wr (by rw [hrow2]) (by rw [hrow2]; simp [hk])
              have HN2 : Hid (((wrs t).take (i + 1)).foldl (confW (st + 1) t) cm = confW (st + 1) t (((wrs t).take i).foldl (confW (st + 1) t) cm) k) := by
                show _ = _
                rw [List.take_add_one, hk]
                simp
              generalize ((wrs t).take i).foldl (confW (st + 1) t) cm = c2 at *
              have i1 : (i : Int) < ((wrs t).length : Int) := by omega
              have hrlt := hrw1.wl t htn
              go_wp2_with fail
              refine (start_any hg1 hb32 hCi hkK hK).mono ?_
              rintro e w3 ⟨rfl, hC3⟩
              obtain ⟨R3, p3, q3, h3, hrow3, hblk3, hc3, hR3, hA⟩ := hC3.readyW hkK hK t
              have hl3 : ((startC (st + 1) k c2).wl k).length ≤ 1000000 := by
                have := (rl_len_start (st + 1) k c2 k).2
                have := (hLi k).2
                have := hrw1.wl t htn
                omega
              have HA : Hid _ := hA
              have HROW : Hid (R3 (103 + 4 * k) = _) := hrow3
              have cB3 : w3.cell? ⟨B, 0, none⟩ = some (.pointer (some ⟨G, 0, none⟩)) := hC3.cell n32 (by rw [hb32]) (by rw [hb32]; rfl)
              have cG3 : w3.cell? ⟨G, 4, none⟩ = some (.slice (some ⟨b 4, 0, none⟩) K K) := hC3.cell n0 (by rw [hg1.g0]) (by rw [hg1.g0]; exact hg1.x4)
              have HEB : Hid ((R1 32).blk = some B ∧ (R1 32).xs[0]? = some (.pointer (some ⟨G, 0, none⟩)) ∧ (R1 0).blk = some G ∧ (R1 0).xs[4]? = some (.slice (some ⟨b 4, 0, none⟩) K K)) := ⟨by rw [hb32], by rw [hb32]; rfl, by rw [hg1.g0], by rw [hg1.g0]; exact hg1.x4⟩
              have e3 : b 4 ≠ B := h3.ne hblk3 (by rw [hR3 32 n32, hb32]) (by omega)
              have e4 : b 4 ≠ G := h3.ne hblk3 (by rw [hR3 0 n0, hg1.g0]) (by omega)
              have hk1 : (k : Int) < (K : Int) := by omega
              clear hA hrow3 hR3 hblk3 hck hr1 hg0 hgB
              generalize ((startC (st + 1) k c2).wl k).length = L3 at *
              generalize ((startC (st + 1) k c2).wl k).map i32 = X3 at *
              have cA3 : ∀ o, (w3.alloc o).cell? ⟨b 4, k, none⟩ = some (.slice (p3.map fun b => (⟨b, 0, none⟩ : Addr)) L3 q3) := fun o => ((only_alloc w3 o).cell (p := ⟨b 4, k, none⟩) (World.block_lt_of_cell? w3 _ hc3) (fun hf => hf)).trans hc3
              go_wp2_with fail
              refine wp_region_noPanic ?_
              refine wp_region_held_drew (S := (fun w' => w'.cell? ⟨B, 0, none⟩ = some (.pointer (some ⟨G, 0, none⟩)) ∧ w'.cell? ⟨G, 4, none⟩ = some (.slice (some ⟨b 4, 0, none⟩) K K))) (by kernel_rfl) ?_ (fun hHeld => ?_)
              · ((try dsimp only); go_keep)
              refine wpAnyH_take (i := 0) (v := ?_) rfl (by kernel_rfl) (by kernel_rfl) (by kernel_rfl) (fun _ _ _ h => h) (Or.inl ⟨by rfl, ?_⟩) (by assumption) ?_
              rotate_left
              · (intro w hSw; (try dsimp only at hSw); (try simp only [List.getElem_toArray, List.getElem_cons_zero, List.getElem_cons_succ]); go_simp; (try with_reducible rfl))
              (try simp only [Act.put, List.setIfInBounds_toArray, List.set_cons_zero, List.set_cons_succ, List.getElem_toArray, List.getElem_cons_zero, List.getElem_cons_succ])
              refine wpAnyH_take (i := 1) (v := ?_) rfl (by kernel_rfl) (by kernel_rfl) (by kernel_rfl) (fun _ _ _ h => h) (Or.inl ⟨by rfl, ?_⟩) (by assumption) ?_
              rotate_left
              · (intro w hSw; (try dsimp only at hSw); (try simp only [List.getElem_toArray, List.getElem_cons_zero, List.getElem_cons_succ]); go_simp; (try with_reducible rfl))
              (try simp only [Act.put, List.setIfInBounds_toArray, List.set_cons_zero, List.set_cons_succ, List.getElem_toArray, List.getElem_cons_zero, List.getElem_cons_succ])
              refine wpAnyH_take (i := 2) (v := ?_) rfl (by kernel_rfl) (by kernel_rfl) (by kernel_rfl) (fun _ _ _ h => h) (Or.inl ⟨by rfl, ?_⟩) (by assumption) ?_
              rotate_left
              · (intro w hSw; (try dsimp only at hSw); (try simp only [List.getElem_toArray, List.getElem_cons_zero, List.getElem_cons_succ]); go_simp; (try with_reducible rfl))
              (try simp only [Act.put, List.setIfInBounds_toArray, List.set_cons_zero, List.set_cons_succ, List.getElem_toArray, List.getElem_cons_zero, List.getElem_cons_succ])
              refine wpAnyH_take (i := 3) (v := ?_) rfl (by kernel_rfl) (by kernel_rfl) (by kernel_rfl) (fun _ _ _ h => h) (Or.inl ⟨by rfl, ?_⟩) (by assumption) ?_
              rotate_left
              · (intro w hSw; (try dsimp only at hSw); (try simp only [List.getElem_toArray, List.getElem_cons_zero, List.getElem_cons_succ]); go_simp; (try with_reducible rfl))
              (try simp only [Act.put, List.setIfInBounds_toArray, List.set_cons_zero, List.set_cons_succ, List.getElem_toArray, List.getElem_cons_zero, List.getElem_cons_succ])
              refine wpAnyH_take (i := 4) (v := ?_) rfl (by kernel_rfl) (by kernel_rfl) (by kernel_rfl) (fun _ _ _ h => h) (Or.inl ⟨by rfl, ?_⟩) (by assumption) ?_
              rotate_left
              · (intro w hSw; (try dsimp only at hSw); (try simp only [List.getElem_toArray, List.getElem_cons_zero, List.getElem_cons_succ]); go_simp; (try with_reducible rfl))
              (try simp only [Act.put, List.setIfInBounds_toArray, List.set_cons_zero, List.set_cons_succ, List.getElem_toArray, List.getElem_cons_zero, List.getElem_cons_succ])
              refine wpAnyH_take (i := 5) (v := ?_) rfl (by kernel_rfl) (by kernel_rfl) (by kernel_rfl) (fun _ _ _ h => h) (Or.inl ⟨by rfl, ?_⟩) (by assumption) ?_
              rotate_left
              · (intro w hSw; (try dsimp only at hSw); (try simp only [List.getElem_toArray, List.getElem_cons_zero, List.getElem_cons_succ]); go_simp; (try with_reducible rfl))
              (try simp only [Act.put, List.setIfInBounds_toArray, List.set_cons_zero, List.set_cons_succ, List.getElem_toArray, List.getElem_cons_zero, List.getElem_cons_succ])
              refine wpAnyH_take (i := 6) (v := ?_) rfl (by kernel_rfl) (by kernel_rfl) (by kernel_rfl) (fun _ _ _ h => h) (Or.inl ⟨by rfl, ?_⟩) (by assumption) ?_
              rotate_left
              · (intro w hSw; (try dsimp only at hSw); (try simp only [List.getElem_toArray, List.getElem_cons_zero, List.getElem_cons_succ]); go_simp; (try with_reducible rfl))
              (try simp only [Act.put, List.setIfInBounds_toArray, List.set_cons_zero, List.set_cons_succ, List.getElem_toArray, List.getElem_cons_zero, List.getElem_cons_succ])
              refine wpAnyH_take (i := 7) (v := ?_) rfl (by kernel_rfl) (by kernel_rfl) (by kernel_rfl) (fun _ _ _ h => h) (Or.inl ⟨by rfl, ?_⟩) (by assumption) ?_
              rotate_left
              · (intro w hSw; (try dsimp only at hSw); (try simp only [List.getElem_toArray, List.getElem_cons_zero, List.getElem_cons_succ]); go_simp; (try with_reducible rfl))
              (try simp only [Act.put, List.setIfInBounds_toArray, List.set_cons_zero, List.set_cons_succ, List.getElem_toArray, List.getElem_cons_zero, List.getElem_cons_succ])
              refine wpAnyH_take (i := 8) (v := ?_) rfl (by kernel_rfl) (by kernel_rfl) (by kernel_rfl) (fun _ _ _ h => h) (Or.inl ⟨by rfl, ?_⟩) (by assumption) ?_
              rotate_left
              · (intro w hSw; (try dsimp only at hSw); (try simp only [List.getElem_toArray, List.getElem_cons_zero, List.getElem_cons_succ]); go_simp; (try with_reducible rfl))
              (try simp only [Act.put, List.setIfInBounds_toArray, List.set_cons_zero, List.set_cons_succ, List.getElem_toArray, List.getElem_cons_zero, List.getElem_cons_succ])
              refine wpAnyH_take (i := 9) (v := ?_) rfl (by kernel_rfl) (by kernel_rfl) (by kernel_rfl) (fun _ _ _ h => h) (Or.inl ⟨by rfl, ?_⟩) (by assumption) ?_
              rotate_left
              · (intro w hSw; (try dsimp only at hSw); (try simp only [List.getElem_toArray, List.getElem_cons_zero, List.getElem_cons_succ]); go_simp; (try with_reducible rfl))
              (try simp only [Act.put, List.setIfInBounds_toArray, List.set_cons_zero, List.set_cons_succ, List.getElem_toArray, List.getElem_cons_zero, List.getElem_cons_succ])
              refine wpAnyH_take (i := 10) (v := ?_) rfl (by kernel_rfl) (by kernel_rfl) (by kernel_rfl) (fun _ _ _ h => h) (Or.inl ⟨by rfl, ?_⟩) (by assumption) ?_
              rotate_left
              · (intro w hSw; (try dsimp only at hSw); (try simp only [List.getElem_toArray, List.getElem_cons_zero, List.getElem_cons_succ]); go_simp; (try with_reducible rfl))
              (try simp only [Act.put, List.setIfInBounds_toArray, List.set_cons_zero, List.set_cons_succ, List.getElem_toArray, List.getElem_cons_zero, List.getElem_cons_succ])
              refine wpAnyH_take (i := 12) (v := ?_) rfl (by kernel_rfl) (by kernel_rfl) (by kernel_rfl) (fun _ _ _ h => h) (Or.inl ⟨by rfl, ?_⟩) (by assumption) ?_
              rotate_left
              · (intro w hSw; (try dsimp only at hSw); (try simp only [List.getElem_toArray, List.getElem_cons_zero, List.getElem_cons_succ]); go_simp; (try with_reducible rfl))
              (try simp only [Act.put, List.setIfInBounds_toArray, List.set_cons_zero, List.set_cons_succ, List.getElem_toArray, List.getElem_cons_zero, List.getElem_cons_succ])
              refine wpAnyH_ready (rs := [11, 13]) (by kernel_rfl) (by simp) ?_
              refine AllReadyH.cons rfl (fun K hK => ?_) ?_
              · (try simp only [List.getElem_toArray, List.getElem_cons_zero, List.getElem_cons_succ])
                go_simp
                refine hK.out _ _ ?_ (fun hHeld => ?_)
                · ((try dsimp only); go_keep)
                clear hK
                (try simp only [Act.put, List.setIfInBounds_toArray, List.set_cons_zero, List.set_cons_succ, List.getElem_toArray, List.getElem_cons_zero, List.getElem_cons_succ])
                refine wpAnyH_ready (rs := [13]) (by kernel_rfl) (by simp) ?_
                refine AllReadyH.cons rfl (fun K hK => ?_) ?_
                · (try simp only [List.getElem_toArray, List.getElem_cons_zero, List.getElem_cons_succ])
                  go_simp
                  refine hK.out _ _ ?_ (fun hHeld => ?_)
                  · ((try dsimp only); go_keep)
                  clear hK
                  (try simp only [Act.put, List.setIfInBounds_toArray, List.set_cons_zero, List.set_cons_succ, List.getElem_toArray, List.getElem_cons_zero, List.getElem_cons_succ])
                  refine wpAnyH_ready (rs := [14]) (by kernel_rfl) (by simp) ?_
                  refine AllReadyH.cons rfl (fun K hK => ?_) ?_
                  · ((refine step_fam_app (by rfl) _ _ _ (by rfl) 21 i0 _ 1 4 Yba.underlying22 hi0 hz0 hz1 hz2 rfl (by omega) (by omega) R3 (103 + 4 * k) p3 q3 L3 X3 HROW.out (by first | exact (h3.alloc _).drew | exact h3.drew.alloc _) (by rfl) hl3 ⟨w3.heap.size, 0, none⟩ 1 [i32 t] (by rfl) (by rfl) (World.news_of_block (cs := #[i32 t]) (t := 21) (fr := (0, 0)) (heap_alloc_new w3 _)) (by simp [Value.oneCell']) ?_; intro gg cap w4 h4; obtain ⟨z1, z2, z3, z4⟩ := HA.out gg cap w4 h4; have y1 := z3 32 B 0 _ n32 HEB.out.1 HEB.out.2.1; have y2 := z3 0 G 4 _ n0 HEB.out.2.2.1 HEB.out.2.2.2; clear z3))
                    refine hK.out _ _ ?_ (fun hHeld => ?_)
                    · ((try dsimp only); go_keep)
                    clear hK
                    (try simp only [Act.put, List.setIfInBounds_toArray, List.set_cons_zero, List.set_cons_succ, List.getElem_toArray, List.getElem_cons_zero, List.getElem_cons_succ])
                    refine wpAnyH_take (i := 15) (v := ?_) rfl (by kernel_rfl) (by kernel_rfl) (by kernel_rfl) (fun _ _ _ h => h) (Or.inl ⟨by rfl, ?_⟩) (by assumption) ?_
                    rotate_left
                    · (intro w hSw; (try dsimp only at hSw); (try simp only [List.getElem_toArray, List.getElem_cons_zero, List.getElem_cons_succ]); go_simp; (try with_reducible rfl))
                    (try simp only [Act.put, List.setIfInBounds_toArray, List.set_cons_zero, List.set_cons_succ, List.getElem_toArray, List.getElem_cons_zero, List.getElem_cons_succ])
                    refine wpAnyH_ready (rs := [16]) (by kernel_rfl) (by simp) ?_
                    refine AllReadyH.cons rfl (fun K hK => ?_) ?_
                    · (try simp only [List.getElem_toArray, List.getElem_cons_zero, List.getElem_cons_succ])
                      go_simp
                      refine hK.out _ _ ?_ (fun hHeld => ?_)
                      · ((try dsimp only); go_keep)
                      clear hK
                      (try simp only [Act.put, List.setIfInBounds_toArray, List.set_cons_zero, List.set_cons_succ, List.getElem_toArray, List.getElem_cons_zero, List.getElem_cons_succ])
                      refine wpAnyH_done (by kernel_rfl) ?_ _
                      refine NoPanic.normal ?_
                      have HZ : Hid _ := z4
                      clear z1 z2 z4 y1 y2
                      go_wp2_with fail
                      go_roundg ((wrs t).length - (i + 1))
                      case measure => omega
                      case rel => exact ⟨i + 1, by go_num, by omega, by omega, by rw [HN2.out]; exact HZ.out, by rw [HN2.out]; exact hLi.confW⟩
                    exact AllReadyH.nil
                  exact AllReadyH.nil
                exact AllReadyH.nil
              refine AllReadyH.cons rfl (fun K hK => ?_) ?_
              · (try simp only [List.getElem_toArray, List.getElem_cons_zero, List.getElem_cons_succ])
                go_simp
                refine hK.out _ _ ?_ (fun hHeld => ?_)
                · ((try dsimp only); go_keep)
                clear hK
                (try simp only [Act.put, List.setIfInBounds_toArray, List.set_cons_zero, List.set_cons_succ, List.getElem_toArray, List.getElem_cons_zero, List.getElem_cons_succ])
                refine wpAnyH_ready (rs := [11]) (by kernel_rfl) (by simp) ?_
                refine AllReadyH.cons rfl (fun K hK => ?_) ?_
                · (try simp only [List.getElem_toArray, List.getElem_cons_zero, List.getElem_cons_succ])
                  go_simp
                  refine hK.out _ _ ?_ (fun hHeld => ?_)
                  · ((try dsimp only); go_keep)
                  clear hK
                  (try simp only [Act.put, List.setIfInBounds_toArray, List.set_cons_zero, List.set_cons_succ, List.getElem_toArray, List.getElem_cons_zero, List.getElem_cons_succ])
                  refine wpAnyH_ready (rs := [14]) (by kernel_rfl) (by simp) ?_
                  refine AllReadyH.cons rfl (fun K hK => ?_) ?_
                  · ((refine step_fam_app (by rfl) _ _ _ (by rfl) 21 i0 _ 1 4 Yba.underlying22 hi0 hz0 hz1 hz2 rfl (by omega) (by omega) R3 (103 + 4 * k) p3 q3 L3 X3 HROW.out (by first | exact (h3.alloc _).drew | exact h3.drew.alloc _) (by rfl) hl3 ⟨w3.heap.size, 0, none⟩ 1 [i32 t] (by rfl) (by rfl) (World.news_of_block (cs := #[i32 t]) (t := 21) (fr := (0, 0)) (heap_alloc_new w3 _)) (by simp [Value.oneCell']) ?_; intro gg cap w4 h4; obtain ⟨z1, z2, z3, z4⟩ := HA.out gg cap w4 h4; have y1 := z3 32 B 0 _ n32 HEB.out.1 HEB.out.2.1; have y2 := z3 0 G 4 _ n0 HEB.out.2.2.1 HEB.out.2.2.2; clear z3))
                    refine hK.out _ _ ?_ (fun hHeld => ?_)
                    · ((try dsimp only); go_keep)
                    clear hK
                    (try simp only [Act.put, List.setIfInBounds_toArray, List.set_cons_zero, List.set_cons_succ, List.getElem_toArray, List.getElem_cons_zero, List.getElem_cons_succ])
                    refine wpAnyH_take (i := 15) (v := ?_) rfl (by kernel_rfl) (by kernel_rfl) (by kernel_rfl) (fun _ _ _ h => h) (Or.inl ⟨by rfl, ?_⟩) (by assumption) ?_
                    rotate_left
                    · (intro w hSw; (try dsimp only at hSw); (try simp only [List.getElem_toArray, List.getElem_cons_zero, List.getElem_cons_succ]); go_simp; (try with_reducible rfl))
                    (try simp only [Act.put, List.setIfInBounds_toArray, List.set_cons_zero, List.set_cons_succ, List.getElem_toArray, List.getElem_cons_zero, List.getElem_cons_succ])
                    refine wpAnyH_ready (rs := [16]) (by kernel_rfl) (by simp) ?_
                    refine AllReadyH.cons rfl (fun K hK => ?_) ?_
                    · (try simp only [List.getElem_toArray, List.getElem_cons_zero, List.getElem_cons_succ])
                      go_simp
                      refine hK.out _ _ ?_ (fun hHeld => ?_)
                      · ((try dsimp only); go_keep)
                      clear hK
                      (try simp only [Act.put, List.setIfInBounds_toArray, List.set_cons_zero, List.set_cons_succ, List.getElem_toArray, List.getElem_cons_zero, List.getElem_cons_succ])
                      refine wpAnyH_done (by kernel_rfl) ?_ _
                      refine NoPanic.normal ?_
                      have HZ : Hid _ := z4
                      clear z1 z2 z4 y1 y2
                      go_wp2_with fail
                      go_roundg ((wrs t).length - (i + 1))
                      case measure => omega
                      case rel => exact ⟨i + 1, by go_num, by omega, by omega, by rw [HN2.out]; exact HZ.out, by rw [HN2.out]; exact hLi.confW⟩
                    exact AllReadyH.nil
                  exact AllReadyH.nil
                exact AllReadyH.nil
              exact AllReadyH.nil
            · obtain rfl : i = (wrs t).length := by omega
              rw [List.take_length] at hCi hLi
              have i1 : ¬ ((wrs t).length : Int) < ((wrs t).length : Int) := by omega
              clear hr1 hg0 hgB
              go_wp2_with fail
              go_roundg (set.length - (j + 1))
              case measure => omega
              case rel =>
                have e : (set.take (j + 1)).foldl (confT (st + 1) rds wrs) c = (wrs t).foldl (confW (st + 1) t) cm := by rw [HN.out, ← HCM.out]; rfl
                exact ⟨j + 1, by go_num, by omega, by omega, by rw [e]; exact hCi, by rw [e]; exact hLi.mono (by have := hrw1.wl t htn; omega)⟩
    · obtain rfl : j = set.length := by omega
      rw [List.take_length] at hCj hLj
      have j1 : ¬ (set.length : Int) < (set.length : Int) := by omega
      have hgB : wr.cell? ⟨B, 0, none⟩ = some (.pointer (some ⟨G, 0, none⟩)) := hCj.cell n32 (by rw [hb32]) (by rw [hb32]; rfl)
      have hg6 : wr.cell? ⟨G, 6, none⟩ = some (i32 (st + 1)) := hCj.cell n0 (by rw [hg1.g0]) (by rw [hg1.g0]; exact hg1.x6)
      have HC : Hid (Cj w0 wr R1 E n K b (set.foldl (confT (st + 1) rds wrs) c)) := hCj
      clear hCj
      go_wp2_with fail
      go_ret
      obtain ⟨R', f', c', e'⟩ := HC.out
      exact ⟨rfl, R', f', ⟨_, (e' 0 n0).trans hg1.g0, hg1.x0, hg1.x1, hg1.x3, hg1.x4, hg1.x5, hg1.x6, hg1.x7, hg1.x8, hg1.x9, hg1.x10⟩, c', fun i hi h0 h32 => (e' i hi).trans (HR1.out i h0 h32)⟩
end
end Go.Proofs.Ybulkajny
