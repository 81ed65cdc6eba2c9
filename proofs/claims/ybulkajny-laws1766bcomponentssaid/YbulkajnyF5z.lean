import Derived.Test.YbulkajnyF5a
import Derived.Test.YbulkajnyF5c
import Derived.Test.YbulkajnyF5d
import Derived.Test.YbulkajnyF5e
import Derived.Test.YbulkajnyF5h
import Derived.Test.YbulkajnyBits
import Derived.Test.YbulkajnyRc
namespace Go.Proofs.Ybulkajny
open Go.RowKit Go.Sort Go.Maps
set_option linter.unusedVariables false

theorem info5 : (Yba.prog.info? 5).map (fun i => (i.zero, i.size, i.bytes)) = some (some (.int .u8 0), 1, 1) := by kernel_rfl
theorem info36 : (Yba.prog.info? 36).map (fun i => (i.zero, i.size, i.bytes)) = some (some (.slice none 0 0), 1, 24) := by kernel_rfl
theorem info3 : (Yba.prog.info? 3).map (fun i => (i.zero, i.size, i.bytes)) = some (some (.int .i64 0), 1, 8) := by kernel_rfl
theorem made1 (z : Value) (n : Nat) : (madeCells #[z] n).toList = tab n (fun _ => z) := by
  rw [made_toList]
  exact tab_congr (fun j _ => by simp [Nat.mod_one])
theorem Fk.make0 {w0 w : World} {R0 : Nat → Row} {n B m : Nat} {F : Nat → Nat → Bool} (h : Fk w0 w R0 n B m F) (i : Nat) (h1 : i ≠ 72) (h2 : i < 1000) (cs : Array Value) (t : TypeId) (sz N : Nat) (hs : cs.size = N * sz) (hN : N ≤ maxLen) : Fk w0 (w.alloc (.cells cs t)) (put R0 i ⟨some w.heap.size, N, t, sz, N, cs.toList⟩) n B m F := by
  obtain ⟨R, h, h72, hr, hR⟩ := h
  refine ⟨_, h.make (i := i) cs t sz N hs hN, ?_, fun a ha => ?_, fun a q1 q2 => ?_⟩
  · rw [put_ne (Ne.symm h1), h72]
    simp only [Row.mk.injEq, true_and]
    exact tab_congr (fun a _ => by rw [put_ne (by omega)])
  · rw [put_ne (by omega)]; exact hr a ha
  · by_cases e' : a = i
    · subst e'; rw [put_eq, put_eq]
    · rw [put_ne e', put_ne e']; exact hR a q1 q2
theorem mem_setTo {out : Nat → Bool} {n t : Nat} : t ∈ setTo out n ↔ (t < n ∧ out t = false) := by
  unfold setTo
  simp
def innF (out : Nat → Bool) (n : Nat) : Nat → Bool := fun i => decide (i < n) && !out i
theorem inn_set (out : Nat → Bool) (n i : Nat) : innF out n i = decide (i ∈ setTo out n) := by
  rw [Bool.eq_iff_iff]
  simp only [innF, Bool.and_eq_true, decide_eq_true_eq, Bool.not_eq_true', mem_setTo]
theorem rch_adj (out : Nat → Bool) (n : Nat) (rv wv : Nat → List Nat) {i j : Nat} (hi : i < n) (hj : j < n) : rchF (innF out n) (mI rv n) (mI wv n) i j = adj (setTo out n) rv wv i j := by
  unfold rchF adj mI
  rw [if_pos hi, if_pos hj, share_bits, inn_set, inn_set]
theorem sz_set {out : Nat → Bool} {n : Nat} {F : Nat → Nat → Bool} {t : Nat} (ht : t ∈ setTo out n) : szI (innF out n) F n n t = szOf n (setTo out n) F t := by
  have h1 := mem_setTo.1 ht
  unfold szI
  rw [if_pos ⟨h1.1, by rw [inn_set]; simpa using ht⟩]
  unfold szJ szOf
  congr 1
  refine List.filter_congr (fun b hb => ?_)
  unfold szP
  rw [inn_set]

set_option maxRecDepth 100000 in
set_option maxHeartbeats 8000000 in
/-- The law's walk. -/
theorem law5 {w : World} {A : Option Addr} {n q : Nat} {rv wv : Nat → List Nat} {out : Nat → Bool} (hA : Arg w A n rv wv out) (hu : ∀ i, i < n → (∀ x, x ∈ rv i → x < 256) ∧ (∀ x, x ∈ wv i → x < 256)) :
    Calls Yba.prog 5 #[.slice A n q] w (LawPost w) := by
  have HOK : Hid (Calls Yba.prog 13 #[.slice A n q] w (OkPost w n rv wv)) := ok_any hA
  have HA : Hid (Arg w A n rv wv out) := hA
  clear hA
  go_enter Yba.func5, Yba.ntmps5
  refine wp_seq_k (fun K1 hK => ?_)
  have HK1 : Hid _ := hK
  clear hK
  go_wp2_with fail
  refine HK1.out _ _ ?_
  clear HK1
  refine wp_seq_k (fun K1 hK => ?_)
  have HK1 : Hid _ := hK
  clear hK
  refine wp_seq_k (fun K2 hK => ?_)
  have HK2 : Hid _ := hK
  clear hK
  go_wp2_with fail
  refine Calls.mono HOK.out ?_
  rintro e w1 ⟨r, rfl, ho, hr⟩
  clear HOK
  cases r with
  | false =>
    have HP : Hid (LawPost w (.returned (.bool true)) w1) := ⟨rfl, ho.under⟩
    clear ho hr
    go_wp2_with fail
    refine HK2.out _ _ ?_
    go_wp2_with fail
    go_ret
    exact HP.out
  | true =>
    obtain ⟨hn, hlen⟩ := hr rfl
    have hF1 : Fam w w1 (fun _ => ⟨none, 0, 21, 1, 0, []⟩) none := (Fam.start2 w).only0 ho
    have HB : Hid (Calls Yba.prog 14 #[.slice A n q] w1 (BuildPost w (fun _ => ⟨none, 0, 21, 1, 0, []⟩) none n rv wv out)) := build_any hF1 HA.out hn hlen hu
    clear hF1 ho hr
    go_wp2_with fail
    refine HK2.out _ _ ?_
    clear HK2
    go_wp2_with fail
    refine HK1.out _ _ ?_
    clear HK1
    refine wp_seq_k (fun K1 hK => ?_)
    have HK1 : Hid _ := hK
    clear hK
    go_wp2_with fail
    refine HK1.out _ _ ?_
    clear HK1
    refine wp_seq_k (fun K1 hK => ?_)
    have HK1 : Hid _ := hK
    clear hK
    go_wp2_with fail
    refine Calls.mono HB.out ?_
    rintro e w2 ⟨R2, z, p, c, rfl, h2, hB2, hS2, hE2⟩
    clear HB
    have hsl := setTo_len out n
    have hsn : ∀ t, t ∈ setTo out n → t < n := fun t ht => setTo_lt ht
    have hnd := setTo_nodup out n
    go_wp2_with fail
    refine HK1.out _ _ ?_
    clear HK1
    -- the masks
    have m39 := run_make_n 39 5 _ 1 1 Yba.underlying39 info5 (by omega) n (by omega)
    have hmk : Mk w ((w2.alloc (.cells (madeCells #[.int .u8 0] n) 5)).alloc (.cells (madeCells #[.int .u8 0] n) 5)) R2 n w2.heap.size (w2.heap.size + 1) (fun _ => 0) (fun _ => 0) (R2 75) := by
      have a1 := h2.make (i := 70) (madeCells #[.int .u8 0] n) 5 1 n (by simp [madeCells]) (by unfold maxLen; omega)
      have a2 := a1.make (i := 71) (madeCells #[.int .u8 0] n) 5 1 n (by simp [madeCells]) (by unfold maxLen; omega)
      have e : (w2.alloc (.cells (madeCells #[.int .u8 0] n) 5)).heap.size = w2.heap.size + 1 := by simp
      rw [e] at a2
      refine ⟨_, a2, by rw [put_ne (by omega), put_eq, made1]; rfl, by rw [put_eq, made1]; rfl, by rw [put_ne (by omega), put_ne (by omega)], fun i q1 q2 q3 => by rw [put_ne q2, put_ne q1]⟩
    have HMK : Hid _ := hmk
    clear hmk h2
    refine wp_seq_k (fun K1 hK => ?_)
    have HK1 : Hid _ := hK
    clear hK
    go_wp2_with fail
    refine HK1.out _ _ ?_
    clear HK1
    refine wp_seq_k (fun K1 hK => ?_)
    have HK1 : Hid _ := hK
    clear hK
    go_wp2_with fail
    refine HK1.out _ _ ?_
    clear HK1
    have hmk : Mk w ((w2.alloc (.cells (madeCells #[.int .u8 0] n) 5)).alloc (.cells (madeCells #[.int .u8 0] n) 5)) R2 n w2.heap.size (w2.heap.size + 1) (fun _ => 0) (fun _ => 0) (R2 75) := HMK.out
    clear HMK m39
    generalize (w2.alloc (.cells (madeCells #[.int .u8 0] n) 5)).alloc (.cells (madeCells #[.int .u8 0] n) 5) = w3 at *
    generalize w2.heap.size + 1 = B8 at *
    generalize w2.heap.size = B7 at *
    refine wp_seq_k (fun K1 hK => ?_)
    have HK1 : Hid _ := hK
    clear hK
    refine wp_seq_k (fun K2 hK => ?_)
    have HK2 : Hid _ := hK
    clear hK
    go_wp2_with fail
    refine HK2.out _ _ ?_
    clear HK2
    refine mask_any hmk HA.out hn hlen hu ?_
    intro _ _ _ _ _ _ _ _ _ _ _ _ _ _ _ _ _ _ _ _ _ _ _ _ _ _ _ _ _ _ _ _ _ _ _ _ _ _ _ _ _ _ _ _ w4 r4 hM4
    clear hmk
    refine HK1.out _ _ ?_
    clear HK1
    obtain ⟨R4, h4, h70, h71, _, hE4⟩ := hM4
    have hin4 : R4 18 = ⟨some (z + 1), n, 4, 1, n, tab n (fun i => .bool (innF out n i))⟩ := (hE4 18 (by omega) (by omega) (by omega)).trans hB2.ins
    -- the closure
    have m42 := run_make_n 42 36 _ 1 24 Yba.underlying42 info36 (by omega) n (by omega)
    have HK4 : Hid (Fk w (w4.alloc (.cells (madeCells #[.slice none 0 0] n) 36)) R4 n w4.heap.size 0 (fun _ _ => false)) := Fk.start h4 hn
    clear h4
    refine wp_seq_k (fun K1 hK => ?_)
    have HK1 : Hid _ := hK
    clear hK
    go_wp2_with fail
    refine HK1.out _ _ ?_
    clear HK1
    have hk4 : Fk w (w4.alloc (.cells (madeCells #[.slice none 0 0] n) 36)) R4 n w4.heap.size 0 (fun _ _ => false) := HK4.out
    clear HK4 m42
    generalize w4.alloc (.cells (madeCells #[.slice none 0 0] n) 36) = w5 at *
    generalize w4.heap.size = B at *
    refine wp_seq_k (fun K1 hK => ?_)
    have HK1 : Hid _ := hK
    clear hK
    refine wp_seq_k (fun K2 hK => ?_)
    have HK2 : Hid _ := hK
    clear hK
    go_wp2_with fail
    refine HK2.out _ _ ?_
    clear HK2
    refine reach_any hk4 hin4 h70 h71 hn ?_
    intro _ _ _ _ _ _ _ _ _ _ _ _ _ _ _ _ _ _ _ _ _ _ _ _ _ _ _ _ _ _ _ _ _ _ _ _ _ _ _ _ _ _ _ _ _ _ _ _ _ _ w6 hk6
    clear hk4
    refine HK1.out _ _ ?_
    clear HK1
    have hk6 : Fk w w6 R4 n B n (fw (adj (setTo out n) rv wv) 0) := hk6.congr (fun i j hi hj => rch_adj out n rv wv hi hj)
    refine wp_seq_k (fun K1 hK => ?_)
    have HK1 : Hid _ := hK
    clear hK
    refine wp_seq_k (fun K2 hK => ?_)
    have HK2 : Hid _ := hK
    clear hK
    go_wp2_with fail
    refine HK2.out _ _ ?_
    clear HK2
    refine fw_any hk6 hn ?_
    intro _ _ _ _ _ _ _ _ _ _ _ _ _ _ _ _ _ _ _ _ _ _ _ _ _ _ _ _ _ _ _ _ _ _ _ _ _ _ _ w7 hk7
    clear hk6
    refine HK1.out _ _ ?_
    clear HK1
    -- the sizes
    have m43 := run_make_n 43 3 _ 1 8 Yba.underlying43 info3 (by omega) n (by omega)
    have hk8 := hk7.make0 73 (by omega) (by omega) (madeCells #[.int .i64 0] n) 3 1 n (by simp [madeCells]) (by unfold maxLen; omega)
    rw [made1] at hk8
    have HK8 : Hid (Fk w (w7.alloc (.cells (madeCells #[.int .i64 0] n) 3)) (put R4 73 ⟨some w7.heap.size, n, 3, 1, n, tab n (fun _ => .int .i64 0)⟩) n B n (fw (adj (setTo out n) rv wv) n)) := hk8
    clear hk8 hk7
    refine wp_seq_k (fun K1 hK => ?_)
    have HK1 : Hid _ := hK
    clear hK
    go_wp2_with fail
    refine HK1.out _ _ ?_
    clear HK1
    have hk8 : Fk w (w7.alloc (.cells (madeCells #[.int .i64 0] n) 3)) (put R4 73 ⟨some w7.heap.size, n, 3, 1, n, tab n (fun _ => .int .i64 0)⟩) n B n (fw (adj (setTo out n) rv wv) n) := HK8.out
    clear HK8
    generalize w7.alloc (.cells (madeCells #[.int .i64 0] n) 3) = w8 at *
    generalize w7.heap.size = S at *
    refine wp_seq_k (fun K1 hK => ?_)
    have HK1 : Hid _ := hK
    clear hK
    refine wp_seq_k (fun K2 hK => ?_)
    have HK2 : Hid _ := hK
    clear hK
    go_wp2_with fail
    refine HK2.out _ _ ?_
    clear HK2
    refine sz_any (inn := innF out n) (bI := z + 1) hk8 put_eq (by rw [put_ne (by omega)]; exact hin4) hn ?_
    intro _ _ _ _ _ _ _ _ _ _ _ _ _ _ _ _ _ _ _ _ _ _ _ _ _ _ _ _ _ _ _ _ _ _ _ _ _ _ _ _ _ _ _ _ _ _ _ _ _ _ w9 R9 hk9 h739 hE9
    clear hk8
    refine HK1.out _ _ ?_
    clear HK1
    obtain ⟨R10, h10, h72, hrows, hE10⟩ := hk9
    have hE : ∀ i, i ≠ 70 → i ≠ 71 → i ≠ 72 → i ≠ 73 → i ≠ 75 → ¬ (1000 ≤ i ∧ i < 2000) → R10 i = R2 i := fun i a1 a2 a3 a4 a5 a6 => (hE10 i a3 a6).trans ((hE9 i a4).trans ((put_ne a4).trans (hE4 i a1 a2 a5)))
    have hB10 : Bs R10 n z (z + 1) rv wv out n := hB2.congr (fun i hi => hE i (by omega) (by omega) (by omega) (by omega) (by omega) (by omega))
    have hS10 : R10 20 = ⟨p, c, 21, 1, (setTo out n).length, (setTo out n).map i32⟩ := (hE 20 (by omega) (by omega) (by omega) (by omega) (by omega) (by omega)).trans hS2
    have h72' : R10 72 = ⟨some B, n, 36, 1, n, tab n (fun i => (R10 (1000 + i)).val)⟩ := by
      rw [h72]
      simp only [Row.mk.injEq, true_and]
      exact tab_congr (fun i hi => by rw [if_pos hi])
    have HCHK : Hid (Chk R10 n B (z + 1) S (fw (adj (setTo out n) rv wv) n) (innF out n) (szI (innF out n) (fw (adj (setTo out n) rv wv) n) n n)) := ⟨(hE10 18 (by omega) (by omega)).trans ((hE9 18 (by omega)).trans ((put_ne (by omega)).trans hin4)), h72', hrows, (hE10 73 (by omega) (by omega)).trans h739⟩
    have HN : Hid (Calls Yba.prog 15 #[.slice (some ⟨z, 0, none⟩) n n, .slice (p.map fun b => ⟨b, 0, none⟩) (setTo out n).length c] w9 (NpPost w R10 n rv wv (setTo out n))) := np_any h10 hn hB10 hS10 hnd (by omega) hsn hlen (fun i a1 a2 => (hE i (by omega) (by omega) (by omega) (by omega) (by omega) (by omega)).trans (hE2 i (by unfold Bset; omega)))
    clear h10 h72 h72' hrows hE10 hE9 h739 hB10 hin4 h70 h71 hE4 hB2 hE2
    refine wp_seq_k (fun K1 hK => ?_)
    have HK1 : Hid _ := hK
    clear hK
    go_wp2_with fail
    refine Calls.mono HN.out ?_
    rintro e w10 ⟨G, R11, b, gx, ks, rds, wrs, rfl, h11, hg11, hc11, hrw11, hz11, hk4, hknd, hklt, hsp, hspn, hmet, hE11⟩
    clear HN
    have hS11 : R11 20 = ⟨p, c, 21, 1, (setTo out n).length, (setTo out n).map i32⟩ := (hE11 20 (by unfold Pset; omega)).trans hS10
    have hbd := succF_bd hrw11 hsn
    have hs1 : ∀ i, i < n → succF n (setTo out n) rds wrs i = (rds i).map (n + ·) := fun i hi => by unfold succF; rw [if_pos hi]
    have hs2 : ∀ k, succF n (setTo out n) rds wrs (n + k) = wOf wrs (setTo out n) k := fun k => by unfold succF; rw [if_neg (by omega), Nat.add_sub_cancel_left]
    have hcw1 : ∀ k, k < ks.length → _ := fun k hk => conf_wl (st := 0 + 1) (k := k) (rds := rds) (wrs := wrs) (set := setTo out n) (c := ⟨fun _ => 0, fun _ => [], fun _ => []⟩) (by show (0 : Nat) ≠ 0 + 1; omega) (hmet k hk)
    have HC : Hid (Calls Yba.prog 16 #[.pointer (some ⟨G, 0, none⟩), .slice (p.map fun b => ⟨b, 0, none⟩) (setTo out n).length c] w10 (CycPost w R11 none n ks.length G b 0 ((setTo out n).foldl (confT (0 + 1) rds wrs) ⟨fun _ => 0, fun _ => [], fun _ => []⟩) (0 + 1200 * (setTo out n).length) (succF n (setTo out n) rds wrs) (setTo out n) 2000)) :=
      cycles_any h11 hg11 hc11 hrw11 hS11 (by omega) hsn (by omega) (by omega) (by omega) (fun k => ⟨Nat.le_refl _, Nat.le_refl _⟩) (by omega) hz11 (by omega) hs1 (fun k hk => by rw [hs2 k]; exact (hcw1 k hk).2.symm) hbd
    clear h11 hg11 hc11 hz11 hrw11 hcw1 hs1 hs2
    go_wp2_with fail
    refine HK1.out _ _ ?_
    clear HK1
    refine wp_seq_k (fun K1 hK => ?_)
    have HK1 : Hid _ := hK
    clear hK
    go_wp2_with fail
    refine Calls.mono HC.out ?_
    rintro e w11 ⟨v7, R12, gx12, s, rfl, h12, hg12, hc12, hB12, hz12, hO, hfd, hfl, hE12⟩
    clear HC hg12 hc12 hB12 hz12
    obtain ⟨hP1, hP2⟩ := law_plain (K := ks.length) hsn hsp hbd hO
    have hlenf := found_len hbd (fun r hr => by have := hsn r hr; omega) hO
    obtain ⟨_, hSI⟩ := found_scc hbd (fun r hr => by have := hsn r hr; omega) hO
    have hpd := hSI.fd
    clear hSI hO hsp hspn hmet hbd hknd hklt
    have hE13 : ∀ i, i = 18 ∨ i = 72 ∨ i = 73 ∨ (1000 ≤ i ∧ i < 2000) → R12 i = R10 i := fun i hi => (hE12 i (by unfold Yset Cset; omega)).trans (hE11 i (by unfold Pset; omega))
    have hchk : Chk R12 n B (z + 1) S (fw (adj (setTo out n) rv wv) n) (innF out n) (szI (innF out n) (fw (adj (setTo out n) rv wv) n) n n) := by
      have hk := HCHK.out
      refine ⟨(hE13 18 (by omega)).trans hk.r18, ?_, fun i hi => ?_, (hE13 73 (by omega)).trans hk.r73⟩
      · rw [hE13 72 (by omega), hk.r72]
        simp only [Row.mk.injEq, true_and]
        exact tab_congr (fun i hi => by rw [hE13 (1000 + i) (by omega)])
      · rw [hE13 (1000 + i) (by omega)]; exact hk.rows i hi
    clear HCHK hE12 hE11 hE13
    have hPP : ∀ c, c ∈ s.found → 2 ≤ c.length ∧ c.Pairwise (· < ·) ∧ (∀ t, t ∈ c → t < n ∧ innF out n t = true ∧ szI (innF out n) (fw (adj (setTo out n) rv wv) n) n n t = c.length) ∧ ∀ t u, t ∈ c → u ∈ c → u = t ∨ (fw (adj (setTo out n) rv wv) n u t = true ∧ fw (adj (setTo out n) rv wv) n t u = true) := fun c hc => by
      obtain ⟨a1, a2, a3, a4⟩ := hP1 c hc
      refine ⟨a1, a2, fun t ht => ?_, a4⟩
      obtain ⟨b1, b2, b3⟩ := a3 t ht
      exact ⟨b1, by rw [inn_set]; simpa using b2, by rw [sz_set b2]; exact b3⟩
    have hcf : ∀ t, t < n → cntOf s.found t = if innF out n t = true ∧ 2 ≤ szI (innF out n) (fw (adj (setTo out n) rv wv) n) n n t then 1 else 0 := fun t ht => by
      rw [hP2 t ht]
      by_cases hts : t ∈ setTo out n
      · have e1 : innF out n t = true := by rw [inn_set]; simpa using hts
        rw [sz_set hts]
        by_cases h2 : 2 ≤ szOf n (setTo out n) (fw (adj (setTo out n) rv wv) n) t
        · rw [if_pos ⟨hts, h2⟩, if_pos ⟨e1, h2⟩]
        · rw [if_neg (fun q => h2 q.2), if_neg (fun q => h2 q.2)]
      · have e1 : innF out n t = false := by rw [inn_set]; simpa using hts
        rw [if_neg (fun q => hts q.1), if_neg (fun q => by rw [e1] at q; cases q.1)]
    clear hP1 hP2
    obtain ⟨p7, q7, _, hv7⟩ := hfd.row
    subst hv7
    have hck : Ck w (w11.alloc (.cells (madeCells #[.int .i64 0] n) 3)) R12 w11.heap.size n (fun _ => 0) := by
      have a1 := h12.make (i := 74) (madeCells #[.int .i64 0] n) 3 1 n (by simp [madeCells]) (by unfold maxLen; omega)
      exact ⟨_, a1, by rw [put_eq, made1]; rfl, fun i hi => put_ne hi⟩
    have HCK : Hid (Ck w (w11.alloc (.cells (madeCells #[.int .i64 0] n) 3)) R12 w11.heap.size n (fun _ => 0)) := hck
    clear hck h12
    generalize fw (adj (setTo out n) rv wv) n = F at *
    generalize szI (innF out n) F n n = szf at *
    generalize innF out n = inn at *
    go_wp2_with fail
    refine HK1.out _ _ ?_
    clear HK1
    refine wp_seq_k (fun K1 hK => ?_)
    have HK1 : Hid _ := hK
    clear hK
    go_wp2_with fail
    refine HK1.out _ _ ?_
    clear HK1
    have hck : Ck w (w11.alloc (.cells (madeCells #[.int .i64 0] n) 3)) R12 w11.heap.size n (fun _ => 0) := HCK.out
    clear HCK m43
    generalize w11.alloc (.cells (madeCells #[.int .i64 0] n) 3) = w12 at *
    generalize w11.heap.size = C at *
    refine wp_seq_k (fun K1 hK => ?_)
    have HK1 : Hid _ := hK
    clear hK
    refine wp_seq_k (fun K2 hK => ?_)
    have HK2 : Hid _ := hK
    clear hK
    go_wp2_with fail
    refine HK2.out _ _ ?_
    clear HK2
    refine chk_any hchk hfd hck hn hfl hPP hpd (fun c hc => by have := hlenf c hc; omega) ?_
    intro _ _ _ _ _ _ _ _ _ _ _ _ _ _ _ _ _ _ _ _ _ _ _ _ _ _ _ _ _ _ _ _ _ _ _ _ _ _ _ _ _ _ _ _ _ _ _ _ _ _ _ _ _ _ _ _ _ _ _ _ _ _ _ _ _ _ _ _ _ _ _ _ _ _ _ _ _ _ _ _ _ _ _ _ _ _ _ _ _ _ _ _ _ _ _ w13 hck13
    clear hck
    refine HK1.out _ _ ?_
    clear HK1
    have HP : Hid (LawPost w (.returned (.bool true)) w13) := by
      obtain ⟨Rz, hz, _⟩ := hck13
      exact ⟨rfl, hz.below⟩
    refine wp_seq_k (fun K1 hK => ?_)
    have HK1 : Hid _ := hK
    clear hK
    refine wp_seq_k (fun K2 hK => ?_)
    have HK2 : Hid _ := hK
    clear hK
    go_wp2_with fail
    refine HK2.out _ _ ?_
    clear HK2
    refine end_any hchk hck13 hn hcf ?_
    intro _ _ _ _ _ _ _ _ _ _ _ _ _ _ _ _ _ _ _ _ _ _ _ _ _
    refine HK1.out _ _ ?_
    clear HK1
    go_wp2_with fail
    go_ret
    exact HP.out
end Go.Proofs.Ybulkajny
