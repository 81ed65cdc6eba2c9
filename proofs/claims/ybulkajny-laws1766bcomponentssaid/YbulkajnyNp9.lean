import Derived.Test.YbulkajnyNp8
import Derived.Test.YbulkajnyCyc8
namespace Go.Proofs.Ybulkajny
open Go.RowKit Go.Sort Go.Maps
set_option linter.unusedVariables false

/-- newPrecedence's answer. -/
def NpPost (w0 : World) (R : Nat → Row) (n : Nat) (rv wv : Nat → List Nat) (set : List Nat) (e : Ending) (w' : World) : Prop :=
  ∃ (G : Nat) (R' : Nat → Row) (b : Nat → Nat) (gx : List Value) (ks : List Nat) (rds wrs : Nat → List Nat), e = .returned (.pointer (some ⟨G, 0, none⟩)) ∧ Fam w0 w' R' none ∧ Gs R' n ks.length G b gx 0 ∧ Cf R' n ks.length b ⟨fun _ => 0, fun _ => [], fun _ => []⟩ ∧ RW R' n ks.length b rds wrs ∧ Zero R' (n + ks.length) b ∧
    ks.length ≤ 4 ∧ ks.Nodup ∧ (∀ y, y ∈ ks → y < 4) ∧ (∀ t, t ∈ set → Spec ks (rv t) (rds t) ∧ Spec ks (wv t) (wrs t)) ∧ (∀ t, t ∉ set → rds t = [] ∧ wrs t = []) ∧ (∀ k, k < ks.length → ∃ t, t ∈ set ∧ (k ∈ rds t ∨ k ∈ wrs t)) ∧ ∀ i, ¬ Pset i → R' i = R i

set_option maxRecDepth 100000 in
set_option maxHeartbeats 8000000 in
/-- newPrecedence. -/
theorem np_any {w0 w : World} {R : Nat → Row} {n z bI qs : Nat} {ps : Option Nat} {set : List Nat} {rv wv : Nat → List Nat} {out : Nat → Bool} (h : Fam w0 w R none) (hn : n ≤ 64) (hB : Bs R n z bI rv wv out n) (hS : R 20 = ⟨ps, qs, 21, 1, set.length, set.map i32⟩) (hnd : set.Nodup) (hsl : set.length ≤ 100) (hsn : ∀ t, t ∈ set → t < n) (hlen : ∀ i, i < n → (rv i).length ≤ 256 ∧ (wv i).length ≤ 256) (hnil : ∀ i, 100 ≤ i → i < 400 → R i = ⟨none, 0, 21, 1, 0, []⟩) :
    Calls Yba.prog 15 #[.slice (some ⟨z, 0, none⟩) n n, .slice (ps.map fun b => ⟨b, 0, none⟩) set.length qs] w (NpPost w0 R n rv wv set) := by
  refine np_of_tail h hn ?_
  intro ra wa ba ma G u24 u25 u27 u28 u30 u31 u33 u34 u36 w' hpre
  obtain ⟨R', h', e0, e1, e2, e47, e7, he⟩ := hpre
  clear h
  obtain ⟨R2, x, h2, hC, x43, x44, x42, hI, hE2⟩ := cap_start h'
  have hmm := @run_makeMap Yba.prog
  conv => arg 2; whnf
  refine wp_seq_k (fun K1 hK => ?_)
  have HK1 : Hid _ := hK
  clear hK
  go_wp2_with fail
  refine HK1.out _ _ ?_
  clear HK1
  refine wp_seq_k (fun K1 hK => ?_)
  have HK1 : Hid _ := hK
  clear hK
  go_wp2_with fail
  refine HK1.out _ _ ?_
  clear HK1
  refine wp_seq_k (fun K1 hK => ?_)
  have HK1 : Hid _ := hK
  clear hK
  go_wp2_with fail
  refine HK1.out _ _ ?_
  clear HK1
  clear h' hmm
  generalize ((((w'.alloc (.cells #[.slice none 0 0] 22)).alloc (.cells #[.slice none 0 0] 22)).alloc (.map #[] 0)).alloc (.cells #[.map (some (w'.heap.size + 1 + 1))] 71)) = w1 at *
  rw [← x42, ← x44, ← x43]
  generalize w'.heap.size + 1 + 1 = mb at *
  clear x42 x43 x44
  have h3 := (h2.nilRow 51 21 1).nilRow 52 21 1
  obtain ⟨R3, hR3⟩ : ∃ R3, R3 = put (put R2 51 ⟨none, 0, 21, 1, 0, []⟩) 52 ⟨none, 0, 21, 1, 0, []⟩ := ⟨_, rfl⟩
  rw [← hR3] at h3
  have hE3 : ∀ i, i ≠ 51 → i ≠ 52 → R3 i = R2 i := fun i h1 h2 => by rw [hR3, put_ne h2, put_ne h1]
  have r51 : R3 51 = ⟨none, 0, 21, 1, 0, []⟩ := by rw [hR3, put_ne (by omega), put_eq]
  have r52 : R3 52 = ⟨none, 0, 21, 1, 0, []⟩ := by rw [hR3, put_eq]
  clear hR3 h2
  obtain ⟨b, hb1, hb2, hb47, hb7⟩ : ∃ b : Nat → Nat, b 1 = ra ∧ b 2 = wa ∧ b 47 = ba ∧ b 7 = ma := ⟨(fun i => if i = 1 then ra else if i = 2 then wa else if i = 47 then ba else ma), rfl, rfl, rfl, rfl⟩
  subst hb1 hb2 hb47 hb7
  have hEE : ∀ i, ¬ (42 ≤ i ∧ i ≤ 46) → i ≠ 51 → i ≠ 52 → i ≠ 0 → i ≠ 1 → i ≠ 2 → i ≠ 47 → i ≠ 7 → R3 i = R i := fun i a1 a2 a3 a4 a5 a6 a7 a8 => (hE3 i a2 a3).trans ((hE2 i a1).trans (he i a4 a5 a6 a7 a8))
  have k0 : R3 0 = ⟨some G, 1, 49, 15, 1, [.slice (some ⟨b 1, 0, none⟩) n n, .slice (some ⟨b 2, 0, none⟩) n n, .slice (some ⟨b 47, 0, none⟩) n n, .slice none 0 0, .slice none 0 0, .slice none 0 0, .int .i32 0, .slice (some ⟨b 7, 0, none⟩) n n, .slice none 0 0, .slice none 0 0, .slice none 0 0, .slice none 0 0, .slice none 0 0, .slice none 0 0, .slice none 0 0]⟩ := (hE3 0 (by omega) (by omega)).trans ((hE2 0 (by omega)).trans e0)
  have k1 := (hE3 1 (by omega) (by omega)).trans ((hE2 1 (by omega)).trans e1)
  have k2 := (hE3 2 (by omega) (by omega)).trans ((hE2 2 (by omega)).trans e2)
  have k47 := (hE3 47 (by omega) (by omega)).trans ((hE2 47 (by omega)).trans e47)
  have k7 := (hE3 7 (by omega) (by omega)).trans ((hE2 7 (by omega)).trans e7)
  have hrow : ∀ i, 100 ≤ i → i < 400 → R3 i = ⟨none, 0, 21, 1, 0, []⟩ := fun i a1 a2 => (hEE i (by omega) (by omega) (by omega) (by omega) (by omega) (by omega) (by omega) (by omega)).trans (hnil i a1 a2)
  have hNf : Nf R3 n b x mb ⟨[], [], [], fun _ => [], fun _ => [], [], []⟩ (.slice none 0 0) (.slice none 0 0) := by
    refine ⟨hC.congr (fun i a1 a2 => hE3 i (by omega) (by omega)), ⟨?_, ?_, fun i hi => ⟨none, 0, hrow _ (by omega) (by omega)⟩, fun i hi => ⟨none, 0, hrow _ (by omega) (by omega)⟩⟩, ⟨_, k47⟩, ⟨none, 0, r51, rfl⟩, ⟨none, 0, r52, rfl, fun _ => ⟨rfl, rfl⟩⟩⟩
    · rw [k1]
      simp only [Row.mk.injEq, true_and]
      exact tab_congr (fun j hj => by rw [hrow _ (by omega) (by omega)]; rfl)
    · rw [k2]
      simp only [Row.mk.injEq, true_and]
      exact tab_congr (fun j hj => by rw [hrow _ (by omega) (by omega)]; rfl)
  have hN0 : Nj w0 w1 R3 n b x mb ⟨[], [], [], fun _ => [], fun _ => [], [], []⟩ (.slice none 0 0) (.slice none 0 0) := ⟨R3, _, _, h3, hI, hNf, fun _ _ => rfl⟩
  have hP0 : Pl rv wv (set.take 0) (fun _ => False) (fun _ => False) ⟨[], [], [], fun _ => [], fun _ => [], [], []⟩ := ⟨rfl, rfl, List.nodup_nil, fun i hi => (by simp at hi), fun i hi => (by simp at hi), fun i _ _ => ⟨rfl, rfl⟩, fun k hk => (by simp at hk), fun v hv => (by cases hv), fun v hv => (by cases hv), fun i hi => (by simp at hi)⟩
  have hB3 : Bs R3 n z bI rv wv out n := hB.congr (fun i hi => hEE i (by omega) (by omega) (by omega) (by omega) (by omega) (by omega) (by omega) (by omega))
  have hS3 : R3 20 = ⟨ps, qs, 21, 1, set.length, set.map i32⟩ := (hEE 20 (by omega) (by omega) (by omega) (by omega) (by omega) (by omega) (by omega) (by omega)).trans hS
  clear h3 hI hC hNf e0 e1 e2 e47 e7 he hE2 hE3 r51 r52 hB hS k1 k2 k47
  refine wp_seq_k (fun K1 hK => ?_)
  have HK1 : Hid _ := hK
  clear hK
  refine wp_seq_k (fun K2 hK => ?_)
  have HK2 : Hid _ := hK
  clear hK
  go_wp2_with fail
  refine HK2.out _ _ ?_
  clear HK2
  go_wp2_with fail
  go_loopg [42] set.length (fun q s42 wx => ∃ (j : Nat) (R1 : Nat → Row) (s : NS) (v13 v14 : Value), s42 = .int .i64 j ∧ j ≤ set.length ∧ set.length - j ≤ q ∧ Nj w0 wx R1 n b x mb s v13 v14 ∧ (∀ i, i ≠ 48 → R1 i = R3 i) ∧ Pl rv wv (set.take j) (fun _ => False) (fun _ => False) s)
  case atStart => exact ⟨0, R3, _, _, _, rfl, Nat.zero_le _, Nat.le_refl _, hN0, fun _ _ => rfl, hP0⟩
  case round =>
    obtain ⟨j, R1, s, v13, v14, rfl, hjl, hjq, hN1, hR1, hP1⟩ := hrel
    clear hN0 hP0
    by_cases hj : j < set.length
    · obtain ⟨t, ht⟩ : ∃ t, set[j]? = some t := ⟨set[j], List.getElem?_eq_getElem hj⟩
      have htn := hsn t (List.mem_of_getElem? ht)
      have j1 : (j : Int) < (set.length : Int) := by omega
      refine wp_seq_k (fun K2 hK => ?_)
      have HK2 : Hid _ := hK
      clear hK
      go_wp2_with fail
      refine HK2.out _ _ ?_
      clear HK2
      refine wp_seq_k (fun K2 hK => ?_)
      have HK2 : Hid _ := hK
      clear hK
      go_wp2_with fail
      refine HK2.out _ _ ?_
      clear HK2
      refine wp_seq_k (fun K9 hK => ?_)
      have HK9 : Hid _ := hK
      clear hK
      refine wp_block ?_
      refine round15 (done := set) hN1 hP1 ht hnd hsl ((hR1 20 (by omega)).trans hS3) (hB3.congr (fun i hi => hR1 i (by omega))) (hlen t htn) ((hR1 0 (by omega)).trans k0) rfl rfl rfl htn hn ?_
      intro _ _ y13 y14 _ _ _ _ _ _ _ _ _ _ _ _ _ _ _ _ _ _ _ _ _ _ _ _ _ _ _ _ _ _ _ _ _ _ _ _ _ _ _ _ _ _ _ _ _ _ _ _ _ _ _ _ _ _ _ _ _ _ _ _ _ _ _ _ _ _ _ _ _ _ _ _ _ _ _ _ _ _ _ _ _ _ _ _ _ _ _ _ _ _ _ _ _ _ _ _ _ _ _ _ _ _ _ _ _ _ _ _ _ _ _ _ _ _ _ _ _ _ _ _ _ _ _ _ _ _ _ _ _ _ _ _ _ _ _ _ _ _ _ _ _ _ _ _ _ _ _ _ _ _ _ _ _ _ _ _ _ _ _ _ _ _ _ _ w5 R5 s5 hN5 hR5 hP5
      have HREL : Hid (Nj w0 w5 R5 n b x mb s5 y13 y14 ∧ (∀ i, i ≠ 48 → R5 i = R3 i) ∧ Pl rv wv (set.take (j + 1)) (fun _ => False) (fun _ => False) s5) := ⟨hN5, fun i hi => (hR5 i hi).trans (hR1 i hi), hP5⟩
      clear hN5 hR5 hP5 hN1 hR1 hP1
      refine HK9.out _ _ ?_
      clear HK9
      go_wp2_with fail
      go_roundg (set.length - (j + 1))
      case measure => omega
      case rel =>
        obtain ⟨a1, a2, a3⟩ := HREL.out
        exact ⟨j + 1, R5, s5, _, _, by go_num, by omega, by omega, a1, a2, a3⟩
    · obtain rfl : j = set.length := by omega
      have j1 : ¬ ((set.length : Nat) : Int) < (set.length : Int) := by omega
      have hks := hN1.ksle
      obtain ⟨R4, o4, D4, h4, hI4, hf4, hR4⟩ := hN1
      rw [List.take_length] at hP1
      have ns : ∀ i, ¬ Nset i → i ≠ 48 → R4 i = R3 i := fun i a1 a2 => (hR4 i a1).trans (hR1 i a2)
      have m0 : R4 0 = _ := (ns 0 (by unfold Nset; omega) (by omega)).trans k0
      have m7 : R4 7 = _ := (ns 7 (by unfold Nset; omega) (by omega)).trans k7
      have HF4 : Hid _ := h4
      clear h4
      go_wp2_with fail
      refine HK1.out _ _ ?_
      clear HK1
      refine tail38 (b := b) HF4.out hI4 hf4.cap.b42 m0 hn ?_
      intro w6 R6 b3 b4 b5 b8 b9 b10 b11 b12 b13 b14 h6 g0 g3 g4 g5 g8 g9 g10 hE6
      have hrow6 : ∀ i, 100 ≤ i → i < 400 → (i % 4 = 2 ∨ i % 4 = 3) → R6 i = ⟨none, 0, 21, 1, 0, []⟩ := fun i a1 a2 a3 => (hE6 i (by omega)).trans ((ns i (by unfold Nset; omega) (by omega)).trans (hrow i a1 a2))
      have hlt : ∀ i, i < n → i ∈ set ∨ i ∉ set := fun i _ => Classical.em _
      refine ⟨G, R6, fun i => if i = 3 then b3 else if i = 4 then b4 else if i = 5 then b5 else if i = 8 then b8 else if i = 9 then b9 else if i = 10 then b10 else b i, _, s.ks, s.rds, s.wrs, rfl, h6, ⟨g0, rfl, rfl, rfl, rfl, rfl, rfl, rfl, rfl, rfl, rfl⟩, ⟨?_, ?_, g5, ?_, fun k hk => ⟨none, 0, hrow6 _ (by omega) (by omega) (by omega)⟩, fun k hk => ⟨none, 0, hrow6 _ (by omega) (by omega) (by omega)⟩⟩, ?_, ⟨g8, g9, g10⟩, hks.1, hks.2.1, hks.2.2, fun t ht => ⟨hP1.spR t ht, hP1.spW t ht⟩, fun t ht => hP1.nil t ht (fun hf => hf), fun k hk => (hP1.met k hk).elim (fun q => q) (fun q => q.elim), fun i hi => ?_⟩
      · rw [g3]
        simp only [Row.mk.injEq, true_and]
        exact ⟨rfl, tab_congr (fun j hj => by rw [hrow6 _ (by omega) (by omega) (by omega)]; rfl)⟩
      · rw [g4]
        simp only [Row.mk.injEq, true_and]
        exact ⟨rfl, tab_congr (fun j hj => by rw [hrow6 _ (by omega) (by omega) (by omega)]; rfl)⟩
      · exact ⟨fun _ => i32 0, (hE6 7 (by omega)).trans m7⟩
      · have hnr := hf4.nr.congr (R' := R6) (fun i hi => hE6 i (by omega))
        refine ⟨hnr.r1, hnr.r2, hnr.rd, hnr.wr, fun i hi k hk => ?_, fun i hi k hk => ?_, fun i hi => ?_, fun i hi => ?_⟩
        · rcases hlt i hi with hm | hm
          · exact (hP1.spR i hm).lt hk
          · rw [(hP1.nil i hm (fun hf => hf)).1] at hk; cases hk
        · rcases hlt i hi with hm | hm
          · exact (hP1.spW i hm).lt hk
          · rw [(hP1.nil i hm (fun hf => hf)).2] at hk; cases hk
        · rcases hlt i hi with hm | hm
          · have := (hP1.len i hm).1; omega
          · rw [(hP1.nil i hm (fun hf => hf)).1]; simp
        · rcases hlt i hi with hm | hm
          · have := (hP1.len i hm).2; omega
          · rw [(hP1.nil i hm (fun hf => hf)).2]; simp
      · unfold Pset at hi
        exact (hE6 i (by omega)).trans ((ns i (by unfold Nset; omega) (by omega)).trans (hEE i (by omega) (by omega) (by omega) (by omega) (by omega) (by omega) (by omega) (by omega)))
end Go.Proofs.Ybulkajny
