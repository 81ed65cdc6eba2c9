import Derived.Test.YbulkajnySt
import Derived.Test.YbulkajnyHeapPush
import Derived.BigRegion
import Derived.Deep.RegionHeld3
namespace Go.Proofs.Ybulkajny
set_option linter.unusedSimpArgs false
open Go.RowKit Go.Sort

/-- The lists by key: stamps, readers, writers. -/
structure CS where
  li : Nat → Nat
  rl : Nat → List Nat
  wl : Nat → List Nat
def startC (st k : Nat) (c : CS) : CS := if c.li k = st then c else ⟨ud c.li k st, ud c.rl k [], ud c.wl k []⟩
def pushR (t k : Nat) (c : CS) : CS := { c with rl := ud c.rl k (c.rl k ++ [t]) }
def pushW (t k : Nat) (c : CS) : CS := { c with wl := ud c.wl k (c.wl k ++ [t]) }

structure Cf (R : Nat → Row) (n K : Nat) (b : Nat → Nat) (c : CS) : Prop where
  r3 : R 3 = ⟨some (b 3), K, 22, 1, K, tab K (fun k => (R (102 + 4 * k)).val)⟩
  r4 : R 4 = ⟨some (b 4), K, 22, 1, K, tab K (fun k => (R (103 + 4 * k)).val)⟩
  r5 : R 5 = ⟨some (b 5), K, 21, 1, K, tab K (fun k => i32 (c.li k))⟩
  r7 : ∃ f, R 7 = ⟨some (b 7), n, 21, 1, n, tab n f⟩
  rs : ∀ k, k < K → ∃ p q, R (102 + 4 * k) = ⟨p, q, 21, 1, (c.rl k).length, (c.rl k).map i32⟩
  ws : ∀ k, k < K → ∃ p q, R (103 + 4 * k) = ⟨p, q, 21, 1, (c.wl k).length, (c.wl k).map i32⟩

/-- The rows that a walk's beginning turns. -/
def Cset (i : Nat) : Prop := i = 3 ∨ i = 4 ∨ i = 5 ∨ i = 7 ∨ (102 ≤ i ∧ i < 1000 ∧ (i % 4 = 2 ∨ i % 4 = 3))

def Cj (w0 w : World) (R0 : Nat → Row) (E : Option (Nat × Obj)) (n K : Nat) (b : Nat → Nat) (c : CS) : Prop :=
  ∃ R, Fam w0 w R E ∧ Cf R n K b c ∧ ∀ i, ¬ Cset i → R i = R0 i

section
variable {w0 w w' : World} {R0 : Nat → Row} {E : Option (Nat × Obj)} {n K : Nat} {b : Nat → Nat} {c : CS}
theorem Cj.only0 (h : Cj w0 w R0 E n K b c) (ho : Only (fun _ => False) w w') : Cj w0 w' R0 E n K b c := by
  obtain ⟨R, h, r⟩ := h
  exact ⟨R, h.only0 ho, r⟩
theorem Cj.drew (h : Cj w0 w R0 E n K b c) : Cj w0 w.drew R0 E n K b c := h.only0 (only_drew w)
theorem Cj.cell (h : Cj w0 w R0 E n K b c) {i d j : Nat} {v : Value} (hi : ¬ Cset i) (hc : (R0 i).blk = some d) (hj : (R0 i).xs[j]? = some v) : w.cell? ⟨d, j, none⟩ = some v := by
  obtain ⟨R, h, _, hR⟩ := h
  exact h.cell (i := i) (by rw [hR i hi]; exact hc) (by rw [hR i hi]; exact hj)

theorem rest_putC {R : Nat → Row} {j : Nat} {r : Row} (hR : ∀ i, ¬ Cset i → R i = R0 i) (hj : Cset j) : ∀ i, ¬ Cset i → put R j r i = R0 i :=
  fun i hi => by
    have : i ≠ j := fun e => hi (by rw [e]; exact hj)
    rw [put_ne this]; exact hR i hi
theorem cset_rs {k : Nat} (h : k < 200) : Cset (102 + 4 * k) := .inr (.inr (.inr (.inr ⟨by omega, by omega, .inl (by omega)⟩)))
theorem cset_ws {k : Nat} (h : k < 200) : Cset (103 + 4 * k) := .inr (.inr (.inr (.inr ⟨by omega, by omega, .inr (by omega)⟩)))

/-- Row k of the readers is turned to l, and the outer row says so. -/
theorem Cj.boxR {R : Nat → Row} (hc : Cf R n K b c) (hR : ∀ i, ¬ Cset i → R i = R0 i) (hK : K ≤ 200) {k : Nat} (hk : k < K) {p : Option Nat} {q m : Nat} {l : List Nat} {xs : List Value} (hm : m = l.length) (hxs : xs = l.map i32) (h : Fam w0 w (put R (102 + 4 * k) ⟨p, q, 21, 1, m, xs⟩) E) :
    ∃ R', Fam w0 (w.setCell ⟨b 3, k, none⟩ (.slice (p.map fun b => ⟨b, 0, none⟩) m q)) R' E ∧ Cf R' n K b { c with rl := ud c.rl k l } ∧ ∀ i, ¬ Cset i → R' i = R0 i := by
  have hs := h.set (i := 3) (b := b 3) (j := k) (v := .slice (p.map fun b => ⟨b, 0, none⟩) m q) (by rw [put_ne (by omega), hc.r3])
  refine ⟨_, hs, ⟨?_, ?_, ?_, ?_, fun j hj => ?_, fun j hj => ?_⟩, rest_putC (rest_putC hR (cset_rs (by omega))) (.inl rfl)⟩
  · rw [put_eq, put_ne (by omega), hc.r3]
    simp only [Row.mk.injEq, true_and]
    refine tab_set ?_ (fun i hi => ?_)
    · rw [put_ne (by omega), put_eq]; rfl
    · rw [put_ne (by omega), put_ne (by omega)]
  · rw [put_ne (by omega), put_ne (by omega), hc.r4]
    simp only [Row.mk.injEq, true_and]
    exact tab_congr (fun j _ => by rw [put_ne (by omega), put_ne (by omega)])
  · rw [put_ne (by omega), put_ne (by omega)]; exact hc.r5
  · rw [put_ne (by omega), put_ne (by omega)]; exact hc.r7
  · rw [put_ne (by omega)]
    by_cases e : j = k
    · subst e; exact ⟨p, q, by rw [put_eq, hm, hxs]; simp [ud_eq]⟩
    · rw [put_ne (by omega)]; simp only [ud_ne e]; exact hc.rs j hj
  · rw [put_ne (by omega), put_ne (by omega)]; exact hc.ws j hj
theorem Cj.boxW {R : Nat → Row} (hc : Cf R n K b c) (hR : ∀ i, ¬ Cset i → R i = R0 i) (hK : K ≤ 200) {k : Nat} (hk : k < K) {p : Option Nat} {q m : Nat} {l : List Nat} {xs : List Value} (hm : m = l.length) (hxs : xs = l.map i32) (h : Fam w0 w (put R (103 + 4 * k) ⟨p, q, 21, 1, m, xs⟩) E) :
    ∃ R', Fam w0 (w.setCell ⟨b 4, k, none⟩ (.slice (p.map fun b => ⟨b, 0, none⟩) m q)) R' E ∧ Cf R' n K b { c with wl := ud c.wl k l } ∧ ∀ i, ¬ Cset i → R' i = R0 i := by
  have hs := h.set (i := 4) (b := b 4) (j := k) (v := .slice (p.map fun b => ⟨b, 0, none⟩) m q) (by rw [put_ne (by omega), hc.r4])
  refine ⟨_, hs, ⟨?_, ?_, ?_, ?_, fun j hj => ?_, fun j hj => ?_⟩, rest_putC (rest_putC hR (cset_ws (by omega))) (.inr (.inl rfl))⟩
  · rw [put_ne (by omega), put_ne (by omega), hc.r3]
    simp only [Row.mk.injEq, true_and]
    exact tab_congr (fun j _ => by rw [put_ne (by omega), put_ne (by omega)])
  · rw [put_eq, put_ne (by omega), hc.r4]
    simp only [Row.mk.injEq, true_and]
    refine tab_set ?_ (fun i hi => ?_)
    · rw [put_ne (by omega), put_eq]; rfl
    · rw [put_ne (by omega), put_ne (by omega)]
  · rw [put_ne (by omega), put_ne (by omega)]; exact hc.r5
  · rw [put_ne (by omega), put_ne (by omega)]; exact hc.r7
  · rw [put_ne (by omega), put_ne (by omega)]; exact hc.rs j hj
  · rw [put_ne (by omega)]
    by_cases e : j = k
    · subst e; exact ⟨p, q, by rw [put_eq, hm, hxs]; simp [ud_eq]⟩
    · rw [put_ne (by omega)]; simp only [ud_ne e]; exact hc.ws j hj
theorem Cj.setL {R : Nat → Row} (h : Fam w0 w R E) (hc : Cf R n K b c) (hR : ∀ i, ¬ Cset i → R i = R0 i) (k x : Nat) :
    ∃ R', Fam w0 (w.setCell ⟨b 5, k, none⟩ (i32 x)) R' E ∧ Cf R' n K b { c with li := ud c.li k x } ∧ (∀ i, i ≠ 5 → R' i = R i) ∧ ∀ i, ¬ Cset i → R' i = R0 i := by
  have hs := h.set (i := 5) (b := b 5) (j := k) (v := i32 x) (by rw [hc.r5])
  refine ⟨_, hs, ⟨?_, ?_, ?_, ?_, fun j hj => ?_, fun j hj => ?_⟩, fun i hi => put_ne hi, rest_putC hR (.inr (.inr (.inl rfl)))⟩
  · rw [put_ne (by omega), hc.r3]
    simp only [Row.mk.injEq, true_and]
    exact tab_congr (fun j _ => by rw [put_ne (by omega)])
  · rw [put_ne (by omega), hc.r4]
    simp only [Row.mk.injEq, true_and]
    exact tab_congr (fun j _ => by rw [put_ne (by omega)])
  · rw [put_eq, hc.r5]
    simp only [Row.mk.injEq, true_and]
    exact tab_set (by simp [ud_eq]) (fun i hi => by simp [ud_ne hi])
  · rw [put_ne (by omega)]; exact hc.r7
  · rw [put_ne (by omega)]; exact hc.rs j hj
  · rw [put_ne (by omega)]; exact hc.ws j hj

theorem Cf.rcell {R : Nat → Row} (hc : Cf R n K b c) (h : Fam w0 w R E) {k : Nat} (hk : k < K) : w.cell? ⟨b 3, k, none⟩ = some (R (102 + 4 * k)).val := h.cell (i := 3) (by rw [hc.r3]) (by rw [hc.r3]; exact tab_get hk)
theorem Cf.wcell {R : Nat → Row} (hc : Cf R n K b c) (h : Fam w0 w R E) {k : Nat} (hk : k < K) : w.cell? ⟨b 4, k, none⟩ = some (R (103 + 4 * k)).val := h.cell (i := 4) (by rw [hc.r4]) (by rw [hc.r4]; exact tab_get hk)

/-- A row's slice, cut to none. -/
theorem slice_zero (r : Row) (w' : World) : (Instr.sliceAt 22 r.val none (some (.int .i64 0)) none).run Yba.prog w' = .ok (.slice (r.blk.map fun b => ⟨b, 0, none⟩) 0 r.cap) w' := by
  have hu : Yba.prog.underlying 22 = some (.slice (Yba.prog.elem 22)) := by kernel_rfl
  have hz : ∀ w, (sizeOf (Yba.prog.elem 22)).run Yba.prog w = .ok 1 w := fun w => by kernel_rfl
  rw [run_sliceAt_slice (h := hu)]
  unfold Row.val
  rw [run_slice_h (ht := hu) (h0 := by omega) (h2 := by omega), hz]
  show Result.ok (sliced _ 0 0 r.cap 1) w' = _
  congr 1
  unfold sliced
  cases hb : r.blk with
  | none => simp
  | some g => simp [Addr.add]

set_option maxRecDepth 100000 in
set_option maxHeartbeats 1600000 in
theorem start_any {G B st : Nat} {gx : List Value} (hg : Gs R0 n K G b gx st) (hB : R0 32 = ⟨some B, 1, 44, 1, 1, [.pointer (some ⟨G, 0, none⟩)]⟩) (hC : Cj w0 w R0 E n K b c) {k : Nat} (hk : k < K) (hK : K ≤ 200) :
    Calls Yba.prog 40 #[i32 k, .pointer (some ⟨B, 0, none⟩)] w fun e w' => e = .returned (.tuple #[]) ∧ Cj w0 w' R0 E n K b (startC st k c) := by
  have n0 : ¬ Cset 0 := by unfold Cset; omega
  have n32 : ¬ Cset 32 := by unfold Cset; omega
  have cB : w.cell? ⟨B, 0, none⟩ = some (.pointer (some ⟨G, 0, none⟩)) := hC.cell n32 (by rw [hB]) (by rw [hB]; rfl)
  have c5 : w.cell? ⟨G, 5, none⟩ = some (.slice (some ⟨b 5, 0, none⟩) K K) := hC.cell n0 (by rw [hg.g0]) (by rw [hg.g0]; exact hg.x5)
  have c6 : w.cell? ⟨G, 6, none⟩ = some (i32 st) := hC.cell n0 (by rw [hg.g0]) (by rw [hg.g0]; exact hg.x6)
  have hk1 : (k : Int) < (K : Int) := by omega
  have hk0 : (0 : Int) ≤ (k : Int) := by omega
  obtain ⟨R, h, hc, hR⟩ := hC
  have hl : w.cell? ⟨b 5, k, none⟩ = some (i32 (c.li k)) := h.cell (i := 5) (by rw [hc.r5]) (by rw [hc.r5]; exact tab_get hk)
  have fl := h.free (i := 5) (b := b 5) (by rw [hc.r5]) k
  by_cases e : c.li k = st
  · have HC : Hid (Cj w0 w R0 E n K b (startC st k c)) := ⟨R, h, by rw [startC, if_pos e]; exact hc, hR⟩
    have hne : (((c.li k : Nat) : Int) != (st : Int)) = false := by simp [e]
    rw [e] at hl
    clear h hc hR fl
    go_enter Yba.func40, Yba.ntmps40
    go_wp2_with fail
    go_region
    go_wp2_with fail
    go_end0
    exact ⟨rfl, HC.out.drew⟩
  · have hne : (((c.li k : Nat) : Int) == (st : Int)) = false := by
      rw [beq_eq_false_iff_ne]; omega
    obtain ⟨R1, h1, hc1, _, hR1⟩ := Cj.setL h hc hR k st
    obtain ⟨p, q, hrow⟩ := hc1.rs k hk
    have hcut := h1.cut (i := 102 + 4 * k) (m := 0) (Nat.zero_le _)
    rw [hrow] at hcut
    obtain ⟨R2, h2, hc2, hR2⟩ := Cj.boxR hc1 hR1 hK hk (l := []) (p := p) (q := q) (m := 0) (xs := []) rfl rfl (by simpa using hcut)
    obtain ⟨p', q', hrow'⟩ := hc2.ws k hk
    have hcut' := h2.cut (i := 103 + 4 * k) (m := 0) (Nat.zero_le _)
    rw [hrow'] at hcut'
    obtain ⟨R3, h3, hc3, hR3⟩ := Cj.boxW hc2 hR2 hK hk (l := []) (p := p') (q := q') (m := 0) (xs := []) rfl rfl (by simpa using hcut')
    have HC : Hid (Cj w0 _ R0 E n K b (startC st k c)) := ⟨R3, h3, by rw [startC, if_neg e]; exact hc3, hR3⟩
    have d3 := hc1.rcell h1 hk
    rw [hrow] at d3
    have d4 := hc2.wcell h2 hk
    rw [hrow'] at d4
    have s3 : ∀ w', (Instr.sliceAt 22 (.slice (p.map fun b => (⟨b, 0, none⟩ : Addr)) (c.rl k).length q) none (some (.int .i64 0)) none).run Yba.prog w' = .ok (.slice (p.map fun b => (⟨b, 0, none⟩ : Addr)) 0 q) w' := fun w' => by
      have := slice_zero (R1 (102 + 4 * k)) w'
      rw [hrow] at this
      exact this
    have s4 : ∀ w', (Instr.sliceAt 22 (.slice (p'.map fun b => (⟨b, 0, none⟩ : Addr)) (c.wl k).length q') none (some (.int .i64 0)) none).run Yba.prog w' = .ok (.slice (p'.map fun b => (⟨b, 0, none⟩ : Addr)) 0 q') w' := fun w' => by
      have := slice_zero (R2 (103 + 4 * k)) w'
      rw [hrow'] at this
      exact this
    simp only [Row.val] at d3 d4
    generalize (p.map fun b => (⟨b, 0, none⟩ : Addr)) = P at *
    generalize (p'.map fun b => (⟨b, 0, none⟩ : Addr)) = P' at *
    have HH1 : Hid (Fam w0 (w.setCell ⟨b 5, k, none⟩ (i32 st)) R1 E) := h1
    have HE0 : Hid (R1 0 = R0 0) := hR1 0 n0
    have HE32 : Hid (R1 32 = R0 32) := hR1 32 n32
    have HR3 : Hid ((R1 3).blk = some (b 3)) := by rw [hc1.r3]; rfl
    have HR4 : Hid ((R1 4).blk = some (b 4)) := by rw [hc1.r4]; rfl
    clear h hc hR h1 hc1 hR1 hcut h2 hc2 hR2 hcut' h3 hc3 hR3 hrow hrow'
    go_enter Yba.func40, Yba.ntmps40
    go_wp2_with fail
    go_region
    go_wp2_with fail
    go_region
    generalize w.setCell ⟨b 5, k, none⟩ (i32 st) = w1 at *
    have h1 := HH1.out
    have g0 : (R1 0).blk = some G := by rw [HE0.out, hg.g0]
    have g32 : (R1 32).blk = some B := by rw [HE32.out, hB]
    have e1 : b 3 ≠ b 4 := h1.ne HR3.out HR4.out (by omega)
    have e2 : b 3 ≠ G := h1.ne HR3.out g0 (by omega)
    have e3 : b 3 ≠ B := h1.ne HR3.out g32 (by omega)
    have e4 : b 4 ≠ G := h1.ne HR4.out g0 (by omega)
    have e5 : b 4 ≠ B := h1.ne HR4.out g32 (by omega)
    have d4' : w1.cell? ⟨b 4, k, none⟩ = some (Value.slice P' (c.wl k).length q') := ((only_setCell w1 ⟨b 3, k, none⟩ (Value.slice P 0 q)).cell (p := ⟨b 4, k, none⟩) (h1.lt HR4.out) (Ne.symm e1)).symm.trans d4
    have f3 := h1.free HR3.out k
    have f4 := h1.free HR4.out k
    have cB1 : w1.cell? ⟨B, 0, none⟩ = some (.pointer (some ⟨G, 0, none⟩)) := h1.cell g32 (by rw [HE32.out, hB]; rfl)
    have k3 : w1.cell? ⟨G, 3, none⟩ = some (.slice (some ⟨b 3, 0, none⟩) K K) := h1.cell g0 (by rw [HE0.out, hg.g0]; exact hg.x3)
    have k4 : w1.cell? ⟨G, 4, none⟩ = some (.slice (some ⟨b 4, 0, none⟩) K K) := h1.cell g0 (by rw [HE0.out, hg.g0]; exact hg.x4)
    generalize (c.rl k).length = L1 at *
    generalize (c.wl k).length = L2 at *
    clear d4 hl fl cB c5 c6 hne h1
    go_wp2_with fail
    clear HH1 HE0 HE32 HR3 HR4 g0 g32 hg hB
    refine wp_region_noPanic ?_
    refine wp_region_held_drew (S := (fun w' => w'.cell? ⟨B, 0, none⟩ = some (.pointer (some ⟨G, 0, none⟩)) ∧ w'.cell? ⟨G, 3, none⟩ = some (.slice (some ⟨b 3, 0, none⟩) K K) ∧ w'.cell? ⟨G, 4, none⟩ = some (.slice (some ⟨b 4, 0, none⟩) K K))) (by kernel_rfl) ?_ (fun hHeld => ?_)
    · ((try dsimp only); go_keep)
    refine wpAnyH_take (i := 0) (v := ?_) rfl (by kernel_rfl) (by kernel_rfl) (by kernel_rfl) (fun _ _ _ h => h) (Or.inl ⟨by rfl, ?_⟩) (by assumption) ?_
    rotate_left
    · (intro w hSw; (try dsimp only at hSw); (try simp only [List.getElem_toArray, List.getElem_cons_zero, List.getElem_cons_succ]); go_simp; (try with_reducible rfl))
    (try simp only [Act.put, List.setIfInBounds_toArray, List.set_cons_zero, List.set_cons_succ, List.getElem_toArray, List.getElem_cons_zero, List.getElem_cons_succ])
    refine wpAnyH_take (i := 1) (v := ?_) rfl (by kernel_rfl) (by kernel_rfl) (by kernel_rfl) (fun _ _ _ h => h) (Or.inl ⟨by rfl, ?_⟩) (by assumption) ?_
    rotate_left
    · (intro w hSw; (try dsimp only at hSw); (try simp only [List.getElem_toArray, List.getElem_cons_zero, List.getElem_cons_succ]); go_simp; (try with_reducible rfl))
    (try simp only [Act.put, List.setIfInBounds_toArray, List.set_cons_zero, List.set_cons_succ, List.getElem_toArray, List.getElem_cons_zero, List.getElem_cons_succ])
    refine wpAnyH_take (i := 2) (v := ?_) rfl (by kernel_rfl) (by kernel_rfl) (by kernel_rfl) (fun _ _ _ h => h) (Or.inl ⟨by rfl, ?_⟩) (by assumption) ?_
    rotate_left
    · (intro w hSw; (try dsimp only at hSw); (try simp only [List.getElem_toArray, List.getElem_cons_zero, List.getElem_cons_succ]); go_simp; (try with_reducible rfl))
    (try simp only [Act.put, List.setIfInBounds_toArray, List.set_cons_zero, List.set_cons_succ, List.getElem_toArray, List.getElem_cons_zero, List.getElem_cons_succ])
    refine wpAnyH_take (i := 3) (v := ?_) rfl (by kernel_rfl) (by kernel_rfl) (by kernel_rfl) (fun _ _ _ h => h) (Or.inl ⟨by rfl, ?_⟩) (by assumption) ?_
    rotate_left
    · (intro w hSw; (try dsimp only at hSw); (try simp only [List.getElem_toArray, List.getElem_cons_zero, List.getElem_cons_succ]); go_simp; (try with_reducible rfl))
    (try simp only [Act.put, List.setIfInBounds_toArray, List.set_cons_zero, List.set_cons_succ, List.getElem_toArray, List.getElem_cons_zero, List.getElem_cons_succ])
    refine wpAnyH_take (i := 4) (v := ?_) rfl (by kernel_rfl) (by kernel_rfl) (by kernel_rfl) (fun _ _ _ h => h) (Or.inl ⟨by rfl, ?_⟩) (by assumption) ?_
    rotate_left
    · (intro w hSw; (try dsimp only at hSw); (try simp only [List.getElem_toArray, List.getElem_cons_zero, List.getElem_cons_succ]); go_simp; (try with_reducible rfl))
    (try simp only [Act.put, List.setIfInBounds_toArray, List.set_cons_zero, List.set_cons_succ, List.getElem_toArray, List.getElem_cons_zero, List.getElem_cons_succ])
    refine wpAnyH_take (i := 5) (v := ?_) rfl (by kernel_rfl) (by kernel_rfl) (by kernel_rfl) (fun _ _ _ h => h) (Or.inl ⟨by rfl, ?_⟩) (by assumption) ?_
    rotate_left
    · (intro w hSw; (try dsimp only at hSw); (try simp only [List.getElem_toArray, List.getElem_cons_zero, List.getElem_cons_succ]); go_simp; (try with_reducible rfl))
    (try simp only [Act.put, List.setIfInBounds_toArray, List.set_cons_zero, List.set_cons_succ, List.getElem_toArray, List.getElem_cons_zero, List.getElem_cons_succ])
    refine wpAnyH_take (i := 6) (v := ?_) rfl (by kernel_rfl) (by kernel_rfl) (by kernel_rfl) (fun _ _ _ h => h) (Or.inl ⟨by rfl, ?_⟩) (by assumption) ?_
    rotate_left
    · (intro w hSw; (try dsimp only at hSw); (try simp only [List.getElem_toArray, List.getElem_cons_zero, List.getElem_cons_succ]); go_simp; (try with_reducible rfl))
    (try simp only [Act.put, List.setIfInBounds_toArray, List.set_cons_zero, List.set_cons_succ, List.getElem_toArray, List.getElem_cons_zero, List.getElem_cons_succ])
    refine wpAnyH_take (i := 7) (v := ?_) rfl (by kernel_rfl) (by kernel_rfl) (by kernel_rfl) (fun _ _ _ h => h) (Or.inl ⟨by rfl, ?_⟩) (by assumption) ?_
    rotate_left
    · (intro w hSw; (try dsimp only at hSw); (try simp only [List.getElem_toArray, List.getElem_cons_zero, List.getElem_cons_succ]); go_simp; (try with_reducible rfl))
    (try simp only [Act.put, List.setIfInBounds_toArray, List.set_cons_zero, List.set_cons_succ, List.getElem_toArray, List.getElem_cons_zero, List.getElem_cons_succ])
    refine wpAnyH_take (i := 8) (v := ?_) rfl (by kernel_rfl) (by kernel_rfl) (by kernel_rfl) (fun _ _ _ h => h) (Or.inl ⟨by rfl, ?_⟩) (by assumption) ?_
    rotate_left
    · (intro w hSw; (try dsimp only at hSw); (try simp only [List.getElem_toArray, List.getElem_cons_zero, List.getElem_cons_succ]); go_simp; (try with_reducible rfl))
    (try simp only [Act.put, List.setIfInBounds_toArray, List.set_cons_zero, List.set_cons_succ, List.getElem_toArray, List.getElem_cons_zero, List.getElem_cons_succ])
    refine wpAnyH_take (i := 9) (v := ?_) rfl (by kernel_rfl) (by kernel_rfl) (by kernel_rfl) (fun _ _ _ h => h) (Or.inl ⟨by rfl, ?_⟩) (by assumption) ?_
    rotate_left
    · (intro w hSw; (try dsimp only at hSw); (try simp only [List.getElem_toArray, List.getElem_cons_zero, List.getElem_cons_succ]); go_simp; (try with_reducible rfl))
    (try simp only [Act.put, List.setIfInBounds_toArray, List.set_cons_zero, List.set_cons_succ, List.getElem_toArray, List.getElem_cons_zero, List.getElem_cons_succ])
    refine wpAnyH_take (i := 10) (v := ?_) rfl (by kernel_rfl) (by kernel_rfl) (by kernel_rfl) (fun _ _ _ h => h) (Or.inl ⟨by rfl, ?_⟩) (by assumption) ?_
    rotate_left
    · (intro w hSw; (try dsimp only at hSw); (try simp only [List.getElem_toArray, List.getElem_cons_zero, List.getElem_cons_succ]); go_simp; (try with_reducible rfl))
    (try simp only [Act.put, List.setIfInBounds_toArray, List.set_cons_zero, List.set_cons_succ, List.getElem_toArray, List.getElem_cons_zero, List.getElem_cons_succ])
    refine wpAnyH_take (i := 11) (v := ?_) rfl (by kernel_rfl) (by kernel_rfl) (by kernel_rfl) (fun _ _ _ h => h) (Or.inl ⟨by rfl, ?_⟩) (by assumption) ?_
    rotate_left
    · (intro w hSw; (try dsimp only at hSw); (try simp only [List.getElem_toArray, List.getElem_cons_zero, List.getElem_cons_succ]); go_simp; (try with_reducible rfl))
    (try simp only [Act.put, List.setIfInBounds_toArray, List.set_cons_zero, List.set_cons_succ, List.getElem_toArray, List.getElem_cons_zero, List.getElem_cons_succ])
    refine wpAnyH_take (i := 12) (v := ?_) rfl (by kernel_rfl) (by kernel_rfl) (by kernel_rfl) (fun _ _ _ h => h) (Or.inl ⟨by rfl, ?_⟩) (by assumption) ?_
    rotate_left
    · (intro w hSw; (try dsimp only at hSw); (try simp only [List.getElem_toArray, List.getElem_cons_zero, List.getElem_cons_succ]); go_simp; (try with_reducible rfl))
    (try simp only [Act.put, List.setIfInBounds_toArray, List.set_cons_zero, List.set_cons_succ, List.getElem_toArray, List.getElem_cons_zero, List.getElem_cons_succ])
    refine wpAnyH_take (i := 13) (v := ?_) rfl (by kernel_rfl) (by kernel_rfl) (by kernel_rfl) (fun _ _ _ h => h) (Or.inl ⟨by rfl, ?_⟩) (by assumption) ?_
    rotate_left
    · (intro w hSw; (try dsimp only at hSw); (try simp only [List.getElem_toArray, List.getElem_cons_zero, List.getElem_cons_succ]); go_simp; (try with_reducible rfl))
    (try simp only [Act.put, List.setIfInBounds_toArray, List.set_cons_zero, List.set_cons_succ, List.getElem_toArray, List.getElem_cons_zero, List.getElem_cons_succ])
    refine wpAnyH_take (i := 14) (v := ?_) rfl (by kernel_rfl) (by kernel_rfl) (by kernel_rfl) (fun _ _ _ h => h) (Or.inl ⟨by rfl, ?_⟩) (by assumption) ?_
    rotate_left
    · (intro w hSw; (try dsimp only at hSw); (try simp only [List.getElem_toArray, List.getElem_cons_zero, List.getElem_cons_succ]); go_simp; (try with_reducible rfl))
    (try simp only [Act.put, List.setIfInBounds_toArray, List.set_cons_zero, List.set_cons_succ, List.getElem_toArray, List.getElem_cons_zero, List.getElem_cons_succ])
    refine wpAnyH_take (i := 15) (v := ?_) rfl (by kernel_rfl) (by kernel_rfl) (by kernel_rfl) (fun _ _ _ h => h) (Or.inl ⟨by rfl, ?_⟩) (by assumption) ?_
    rotate_left
    · (intro w hSw; (try dsimp only at hSw); (try simp only [List.getElem_toArray, List.getElem_cons_zero, List.getElem_cons_succ]); go_simp; (try with_reducible rfl))
    (try simp only [Act.put, List.setIfInBounds_toArray, List.set_cons_zero, List.set_cons_succ, List.getElem_toArray, List.getElem_cons_zero, List.getElem_cons_succ])
    refine wpAnyH_take (i := 18) (v := ?_) rfl (by kernel_rfl) (by kernel_rfl) (by kernel_rfl) (fun _ _ _ h => h) (Or.inl ⟨by rfl, ?_⟩) (by assumption) ?_
    rotate_left
    · (intro w hSw; (try dsimp only at hSw); (try simp only [List.getElem_toArray, List.getElem_cons_zero, List.getElem_cons_succ]); go_simp; (try with_reducible rfl))
    (try simp only [Act.put, List.setIfInBounds_toArray, List.set_cons_zero, List.set_cons_succ, List.getElem_toArray, List.getElem_cons_zero, List.getElem_cons_succ])
    refine wpAnyH_take (i := 19) (v := ?_) rfl (by kernel_rfl) (by kernel_rfl) (by kernel_rfl) (fun _ _ _ h => h) (Or.inl ⟨by rfl, ?_⟩) (by assumption) ?_
    rotate_left
    · (intro w hSw; (try dsimp only at hSw); (try simp only [List.getElem_toArray, List.getElem_cons_zero, List.getElem_cons_succ]); go_simp; (try with_reducible rfl))
    (try simp only [Act.put, List.setIfInBounds_toArray, List.set_cons_zero, List.set_cons_succ, List.getElem_toArray, List.getElem_cons_zero, List.getElem_cons_succ])
    refine wpAnyH_take (i := 20) (v := ?_) rfl (by kernel_rfl) (by kernel_rfl) (by kernel_rfl) (fun _ _ _ h => h) (Or.inl ⟨by rfl, ?_⟩) (by assumption) ?_
    rotate_left
    · (intro w hSw; (try dsimp only at hSw); (try simp only [List.getElem_toArray, List.getElem_cons_zero, List.getElem_cons_succ]); go_simp; (try with_reducible rfl))
    (try simp only [Act.put, List.setIfInBounds_toArray, List.set_cons_zero, List.set_cons_succ, List.getElem_toArray, List.getElem_cons_zero, List.getElem_cons_succ])
    refine wpAnyH_take (i := 21) (v := ?_) rfl (by kernel_rfl) (by kernel_rfl) (by kernel_rfl) (fun _ _ _ h => h) (Or.inl ⟨by rfl, ?_⟩) (by assumption) ?_
    rotate_left
    · (intro w hSw; (try dsimp only at hSw); (try simp only [List.getElem_toArray, List.getElem_cons_zero, List.getElem_cons_succ]); go_simp; (try with_reducible rfl))
    (try simp only [Act.put, List.setIfInBounds_toArray, List.set_cons_zero, List.set_cons_succ, List.getElem_toArray, List.getElem_cons_zero, List.getElem_cons_succ])
    refine wpAnyH_take (i := 22) (v := ?_) rfl (by kernel_rfl) (by kernel_rfl) (by kernel_rfl) (fun _ _ _ h => h) (Or.inl ⟨by rfl, ?_⟩) (by assumption) ?_
    rotate_left
    · (intro w hSw; (try dsimp only at hSw); (try simp only [List.getElem_toArray, List.getElem_cons_zero, List.getElem_cons_succ]); go_simp; (try with_reducible rfl))
    (try simp only [Act.put, List.setIfInBounds_toArray, List.set_cons_zero, List.set_cons_succ, List.getElem_toArray, List.getElem_cons_zero, List.getElem_cons_succ])
    refine wpAnyH_take (i := 23) (v := ?_) rfl (by kernel_rfl) (by kernel_rfl) (by kernel_rfl) (fun _ _ _ h => h) (Or.inl ⟨by rfl, ?_⟩) (by assumption) ?_
    rotate_left
    · (intro w hSw; (try dsimp only at hSw); (try simp only [List.getElem_toArray, List.getElem_cons_zero, List.getElem_cons_succ]); go_simp; (try with_reducible rfl))
    (try simp only [Act.put, List.setIfInBounds_toArray, List.set_cons_zero, List.set_cons_succ, List.getElem_toArray, List.getElem_cons_zero, List.getElem_cons_succ])
    refine wpAnyH_ready (rs := [16, 24]) (by kernel_rfl) (by simp) ?_
    refine AllReadyH.cons rfl (fun K hK => ?_) ?_
    · (try simp only [List.getElem_toArray, List.getElem_cons_zero, List.getElem_cons_succ])
      go_simp
      refine hK.out _ _ ?_ (fun hHeld => ?_)
      · ((try dsimp only); go_keep)
      clear hK
      (try simp only [Act.put, List.setIfInBounds_toArray, List.set_cons_zero, List.set_cons_succ, List.getElem_toArray, List.getElem_cons_zero, List.getElem_cons_succ])
      refine wpAnyH_take (i := 17) (v := ?_) rfl (by kernel_rfl) (by kernel_rfl) (by kernel_rfl) (fun _ _ _ h => h) (Or.inl ⟨by rfl, ?_⟩) (by assumption) ?_
      rotate_left
      · (intro w hSw; (try dsimp only at hSw); (try simp only [List.getElem_toArray, List.getElem_cons_zero, List.getElem_cons_succ]); go_simp; (try with_reducible rfl))
      (try simp only [Act.put, List.setIfInBounds_toArray, List.set_cons_zero, List.set_cons_succ, List.getElem_toArray, List.getElem_cons_zero, List.getElem_cons_succ])
      refine wpAnyH_ready (rs := [24]) (by kernel_rfl) (by simp) ?_
      refine AllReadyH.cons rfl (fun K hK => ?_) ?_
      · (try simp only [List.getElem_toArray, List.getElem_cons_zero, List.getElem_cons_succ])
        go_simp
        refine hK.out _ _ ?_ (fun hHeld => ?_)
        · ((try dsimp only); go_keep)
        clear hK
        (try simp only [Act.put, List.setIfInBounds_toArray, List.set_cons_zero, List.set_cons_succ, List.getElem_toArray, List.getElem_cons_zero, List.getElem_cons_succ])
        refine wpAnyH_take (i := 25) (v := ?_) rfl (by kernel_rfl) (by kernel_rfl) (by kernel_rfl) (fun _ _ _ h => h) (Or.inl ⟨by rfl, ?_⟩) (by assumption) ?_
        rotate_left
        · (intro w hSw; (try dsimp only at hSw); (try simp only [List.getElem_toArray, List.getElem_cons_zero, List.getElem_cons_succ]); go_simp; (try with_reducible rfl))
        (try simp only [Act.put, List.setIfInBounds_toArray, List.set_cons_zero, List.set_cons_succ, List.getElem_toArray, List.getElem_cons_zero, List.getElem_cons_succ])
        refine wpAnyH_take (i := 26) (v := ?_) rfl (by kernel_rfl) (by kernel_rfl) (by kernel_rfl) (fun _ _ _ h => h) (Or.inl ⟨by rfl, ?_⟩) (by assumption) ?_
        rotate_left
        · (intro w hSw; (try dsimp only at hSw); (try simp only [List.getElem_toArray, List.getElem_cons_zero, List.getElem_cons_succ]); go_simp; (try with_reducible rfl))
        (try simp only [Act.put, List.setIfInBounds_toArray, List.set_cons_zero, List.set_cons_succ, List.getElem_toArray, List.getElem_cons_zero, List.getElem_cons_succ])
        refine wpAnyH_ready (rs := [27]) (by kernel_rfl) (by simp) ?_
        refine AllReadyH.cons rfl (fun K hK => ?_) ?_
        · (try simp only [List.getElem_toArray, List.getElem_cons_zero, List.getElem_cons_succ])
          go_simp
          refine hK.out _ _ ?_ (fun hHeld => ?_)
          · ((try dsimp only); go_keep)
          clear hK
          (try simp only [Act.put, List.setIfInBounds_toArray, List.set_cons_zero, List.set_cons_succ, List.getElem_toArray, List.getElem_cons_zero, List.getElem_cons_succ])
          refine wpAnyH_take (i := 28) (v := ?_) rfl (by kernel_rfl) (by kernel_rfl) (by kernel_rfl) (fun _ _ _ h => h) (Or.inl ⟨by rfl, ?_⟩) (by assumption) ?_
          rotate_left
          · (intro w hSw; (try dsimp only at hSw); (try simp only [List.getElem_toArray, List.getElem_cons_zero, List.getElem_cons_succ]); go_simp; (try with_reducible rfl))
          (try simp only [Act.put, List.setIfInBounds_toArray, List.set_cons_zero, List.set_cons_succ, List.getElem_toArray, List.getElem_cons_zero, List.getElem_cons_succ])
          refine wpAnyH_ready (rs := [29]) (by kernel_rfl) (by simp) ?_
          refine AllReadyH.cons rfl (fun K hK => ?_) ?_
          · (try simp only [List.getElem_toArray, List.getElem_cons_zero, List.getElem_cons_succ])
            go_simp
            refine hK.out _ _ ?_ (fun hHeld => ?_)
            · ((try dsimp only); go_keep)
            clear hK
            (try simp only [Act.put, List.setIfInBounds_toArray, List.set_cons_zero, List.set_cons_succ, List.getElem_toArray, List.getElem_cons_zero, List.getElem_cons_succ])
            refine wpAnyH_done (by kernel_rfl) ?_ _
            refine NoPanic.normal ?_
            go_wp2_with fail
            go_end0
            exact ⟨rfl, HC.out.drew.drew.drew⟩
          exact AllReadyH.nil
        exact AllReadyH.nil
      exact AllReadyH.nil
    refine AllReadyH.cons rfl (fun K hK => ?_) ?_
    · (try simp only [List.getElem_toArray, List.getElem_cons_zero, List.getElem_cons_succ])
      go_simp
      refine hK.out _ _ ?_ (fun hHeld => ?_)
      · ((try dsimp only); go_keep)
      clear hK
      (try simp only [Act.put, List.setIfInBounds_toArray, List.set_cons_zero, List.set_cons_succ, List.getElem_toArray, List.getElem_cons_zero, List.getElem_cons_succ])
      refine wpAnyH_take (i := 25) (v := ?_) rfl (by kernel_rfl) (by kernel_rfl) (by kernel_rfl) (fun _ _ _ h => h) (Or.inl ⟨by rfl, ?_⟩) (by assumption) ?_
      rotate_left
      · (intro w hSw; (try dsimp only at hSw); (try simp only [List.getElem_toArray, List.getElem_cons_zero, List.getElem_cons_succ]); go_simp; (try with_reducible rfl))
      (try simp only [Act.put, List.setIfInBounds_toArray, List.set_cons_zero, List.set_cons_succ, List.getElem_toArray, List.getElem_cons_zero, List.getElem_cons_succ])
      refine wpAnyH_ready (rs := [16]) (by kernel_rfl) (by simp) ?_
      refine AllReadyH.cons rfl (fun K hK => ?_) ?_
      · (try simp only [List.getElem_toArray, List.getElem_cons_zero, List.getElem_cons_succ])
        go_simp
        refine hK.out _ _ ?_ (fun hHeld => ?_)
        · ((try dsimp only); go_keep)
        clear hK
        (try simp only [Act.put, List.setIfInBounds_toArray, List.set_cons_zero, List.set_cons_succ, List.getElem_toArray, List.getElem_cons_zero, List.getElem_cons_succ])
        refine wpAnyH_take (i := 17) (v := ?_) rfl (by kernel_rfl) (by kernel_rfl) (by kernel_rfl) (fun _ _ _ h => h) (Or.inl ⟨by rfl, ?_⟩) (by assumption) ?_
        rotate_left
        · (intro w hSw; (try dsimp only at hSw); (try simp only [List.getElem_toArray, List.getElem_cons_zero, List.getElem_cons_succ]); go_simp; (try with_reducible rfl))
        (try simp only [Act.put, List.setIfInBounds_toArray, List.set_cons_zero, List.set_cons_succ, List.getElem_toArray, List.getElem_cons_zero, List.getElem_cons_succ])
        refine wpAnyH_take (i := 26) (v := ?_) rfl (by kernel_rfl) (by kernel_rfl) (by kernel_rfl) (fun _ _ _ h => h) (Or.inl ⟨by rfl, ?_⟩) (by assumption) ?_
        rotate_left
        · (intro w hSw; (try dsimp only at hSw); (try simp only [List.getElem_toArray, List.getElem_cons_zero, List.getElem_cons_succ]); go_simp; (try with_reducible rfl))
        (try simp only [Act.put, List.setIfInBounds_toArray, List.set_cons_zero, List.set_cons_succ, List.getElem_toArray, List.getElem_cons_zero, List.getElem_cons_succ])
        refine wpAnyH_ready (rs := [27]) (by kernel_rfl) (by simp) ?_
        refine AllReadyH.cons rfl (fun K hK => ?_) ?_
        · (try simp only [List.getElem_toArray, List.getElem_cons_zero, List.getElem_cons_succ])
          go_simp
          refine hK.out _ _ ?_ (fun hHeld => ?_)
          · ((try dsimp only); go_keep)
          clear hK
          (try simp only [Act.put, List.setIfInBounds_toArray, List.set_cons_zero, List.set_cons_succ, List.getElem_toArray, List.getElem_cons_zero, List.getElem_cons_succ])
          refine wpAnyH_take (i := 28) (v := ?_) rfl (by kernel_rfl) (by kernel_rfl) (by kernel_rfl) (fun _ _ _ h => h) (Or.inl ⟨by rfl, ?_⟩) (by assumption) ?_
          rotate_left
          · (intro w hSw; (try dsimp only at hSw); (try simp only [List.getElem_toArray, List.getElem_cons_zero, List.getElem_cons_succ]); go_simp; (try with_reducible rfl))
          (try simp only [Act.put, List.setIfInBounds_toArray, List.set_cons_zero, List.set_cons_succ, List.getElem_toArray, List.getElem_cons_zero, List.getElem_cons_succ])
          refine wpAnyH_ready (rs := [29]) (by kernel_rfl) (by simp) ?_
          refine AllReadyH.cons rfl (fun K hK => ?_) ?_
          · (try simp only [List.getElem_toArray, List.getElem_cons_zero, List.getElem_cons_succ])
            go_simp
            refine hK.out _ _ ?_ (fun hHeld => ?_)
            · ((try dsimp only); go_keep)
            clear hK
            (try simp only [Act.put, List.setIfInBounds_toArray, List.set_cons_zero, List.set_cons_succ, List.getElem_toArray, List.getElem_cons_zero, List.getElem_cons_succ])
            refine wpAnyH_done (by kernel_rfl) ?_ _
            refine NoPanic.normal ?_
            go_wp2_with fail
            go_end0
            exact ⟨rfl, HC.out.drew.drew.drew⟩
          exact AllReadyH.nil
        exact AllReadyH.nil
      exact AllReadyH.nil
    exact AllReadyH.nil
end
end Go.Proofs.Ybulkajny
