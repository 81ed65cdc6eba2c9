import Derived.Test.YbulkajnyNp9
import Derived.Test.YbulkajnyInd
import Derived.Test.YbulkajnyConfLaw
import Derived.Test.YbulkajnyEq
namespace Go.Proofs.Ybulkajny
open Go.RowKit Go.Sort Go.Maps
set_option linter.unusedVariables false

theorem Fam.start2 (w : World) : Fam w w (fun _ => ⟨none, 0, 21, 1, 0, []⟩) none :=
  ⟨fun i => ⟨by simp, .inl ⟨rfl, rfl⟩⟩, fun i j b _ h => by (cases h), fun b o he => (by cases he), Below.refl _ _⟩
theorem Only.under {w w' : World} (h : Only (fun _ => False) w w') : Below w.heap.size w w' := ⟨h.os, h.tape, h.output, h.size, fun k hk => h.block k hk (fun hf => hf)⟩
theorem RW.congr2 {R R' : Nat → Row} {n K : Nat} {b : Nat → Nat} {rds wrs : Nat → List Nat} (h : RW R n K b rds wrs) (hn : n ≤ 64) (he : ∀ i, (i = 1 ∨ i = 2 ∨ (100 ≤ i ∧ i < 400 ∧ (i % 4 = 0 ∨ i % 4 = 1))) → R' i = R i) : RW R' n K b rds wrs := by
  refine ⟨?_, ?_, fun i hi => ?_, fun i hi => ?_, h.rk, h.wk, h.rl, h.wl⟩
  · rw [he 1 (.inl rfl), h.r1]
    simp only [Row.mk.injEq, true_and]
    exact tab_congr (fun j _ => by rw [he _ (by omega)])
  · rw [he 2 (by omega), h.r2]
    simp only [Row.mk.injEq, true_and]
    exact tab_congr (fun j _ => by rw [he _ (by omega)])
  · rw [he _ (by omega)]; exact h.rd i hi
  · rw [he _ (by omega)]; exact h.wr i hi

/-- The graph's arcs: from a transaction to the keys that it reads, from a key to its writers. -/
def succF (n : Nat) (set : List Nat) (rds wrs : Nat → List Nat) (v : Nat) : List Nat := if v < n then (rds v).map (n + ·) else wOf wrs set (v - n)
theorem mem_wOf {wrs : Nat → List Nat} {set : List Nat} {k u : Nat} : u ∈ wOf wrs set k ↔ u ∈ set ∧ k ∈ wrs u := by
  unfold wOf
  simp only [List.mem_flatMap, List.mem_map, List.mem_filter, decide_eq_true_eq]
  constructor
  · rintro ⟨t, ht, x, ⟨hx, rfl⟩, rfl⟩; exact ⟨ht, hx⟩
  · rintro ⟨hu, hk⟩; exact ⟨u, hu, k, ⟨hk, rfl⟩, rfl⟩
theorem succF_bd {R : Nat → Row} {n K : Nat} {b : Nat → Nat} {rds wrs : Nat → List Nat} {set : List Nat} (h : RW R n K b rds wrs) (hs : ∀ t, t ∈ set → t < n) (v : Nat) (hv : v < n + K) (u : Nat) (hu : u ∈ succF n set rds wrs v) : u < n + K := by
  unfold succF at hu
  split at hu
  · rename_i hvn
    obtain ⟨k, hk, rfl⟩ := List.mem_map.1 hu
    have := h.rk v hvn k hk
    omega
  · have := hs u (mem_wOf.1 hu).1
    omega
theorem setTo_nodup (out : Nat → Bool) (j : Nat) : (setTo out j).Nodup := List.nodup_range.filter _
theorem setTo_lt {out : Nat → Bool} {j t : Nat} (h : t ∈ setTo out j) : t < j := by simpa using (List.mem_filter.1 h).1

/-- What is found, read. -/
theorem Fd.reads {w0 w : World} {R R' : Nat → Row} {E : Option (Nat × Obj)} {f0 m : Nat} {found : List (List Nat)} {P : Option Addr} {L q : Nat} (h : Fd R f0 found (.slice P L q)) (hF : Fam w0 w R' E) (hm : R' m = R 31) (he : ∀ j, j < found.length → R' (f0 + j) = R (f0 + j)) (hl : ∀ c, c ∈ found → c.length ≤ 100000) : Reads2 w P found.reverse ∧ L = found.reverse.length := by
  obtain ⟨p, c, hrow, hv⟩ := h.row
  injection hv with hP hL hq
  refine ⟨fun j l hj => ?_, by rw [hL]; simp⟩
  have hjl : j < found.length := by
    have := (List.getElem?_eq_some_iff.1 hj).1
    simpa using this
  obtain ⟨p2, c2, hrow2⟩ := h.comp j l hj
  have hmem : l ∈ found := by
    have := List.mem_of_getElem? hj
    simpa using this
  rw [← hm] at hrow
  have hok := hF.ok m
  rw [hrow] at hok
  obtain ⟨g, rfl⟩ : ∃ g, p = some g := by
    cases p with
    | some g => exact ⟨g, rfl⟩
    | none =>
      rcases hok.2 with ⟨_, hn⟩ | ⟨g, cap, cur, hv, _⟩
      · have hn : found.length = 0 := hn
        omega
      · simp [Row.val] at hv
  refine ⟨hl l hmem, g, p2.map (fun b => ⟨b, 0, none⟩), c2, hP, ?_, fun i x hi => ?_⟩
  · have := hF.cell (i := m) (b := g) (j := j) (v := (R (f0 + j)).val) (by rw [hrow]) (by rw [hrow]; exact tab_get hjl)
    rw [hrow2] at this
    exact this
  · have hrow3 := (he j hjl).trans hrow2
    have hok2 := hF.ok (f0 + j)
    rw [hrow3] at hok2
    obtain ⟨g2, rfl⟩ := hok2.at hi
    exact ⟨g2, rfl, hF.cell (i := f0 + j) (by rw [hrow3]) (by rw [hrow3]; simp [hi])⟩

def LawPost (w : World) (e : Ending) (w' : World) : Prop := e = .returned (.bool true) ∧ Below w.heap.size w w'

set_option maxRecDepth 100000 in
set_option maxHeartbeats 8000000 in
/-- The law's walk. -/
theorem law6 {w : World} {A : Option Addr} {n q : Nat} {rv wv : Nat → List Nat} {out : Nat → Bool} (hA : Arg w A n rv wv out) (hu : ∀ i, i < n → (∀ x, x ∈ rv i → x < 256) ∧ (∀ x, x ∈ wv i → x < 256)) :
    Calls Yba.prog 6 #[.slice A n q] w (LawPost w) := by
  have HOK : Hid (Calls Yba.prog 13 #[.slice A n q] w (OkPost w n rv wv)) := ok_any hA
  have HA : Hid (Arg w A n rv wv out) := hA
  clear hA
  go_enter Yba.func6, Yba.ntmps6
  refine wp_seq_k (fun K1 hK => ?_)
  have HK1 : Hid _ := hK
  clear hK
  go_wp2_with fail
  refine HK1.out _ _ ?_
  clear HK1
  refine wp_seq_k (fun K1 hK => ?_)
  have HK1 : Hid _ := hK
  clear hK
  refine wp_seq_k (fun K2 hK => ?_)
  have HK2 : Hid _ := hK
  clear hK
  go_wp2_with fail
  refine Calls.mono HOK.out ?_
  rintro e w1 ⟨r, rfl, ho, hr⟩
  clear HOK
  cases r with
  | false =>
    have HP : Hid (LawPost w (.returned (.bool true)) w1) := ⟨rfl, ho.under⟩
    clear ho hr
    go_wp2_with fail
    refine HK2.out _ _ ?_
    go_wp2_with fail
    go_ret
    exact HP.out
  | true =>
    obtain ⟨hn, hlen⟩ := hr rfl
    have hF1 : Fam w w1 (fun _ => ⟨none, 0, 21, 1, 0, []⟩) none := (Fam.start2 w).only0 ho
    have HB : Hid (Calls Yba.prog 14 #[.slice A n q] w1 (BuildPost w (fun _ => ⟨none, 0, 21, 1, 0, []⟩) none n rv wv out)) := build_any hF1 HA.out hn hlen hu
    clear hF1 ho hr
    go_wp2_with fail
    refine HK2.out _ _ ?_
    clear HK2
    go_wp2_with fail
    refine HK1.out _ _ ?_
    clear HK1
    refine wp_seq_k (fun K1 hK => ?_)
    have HK1 : Hid _ := hK
    clear hK
    go_wp2_with fail
    refine Calls.mono HB.out ?_
    rintro e w2 ⟨R2, z, p, c, rfl, h2, hB2, hS2, hE2⟩
    clear HB
    have hsl := setTo_len out n
    have hsn : ∀ t, t ∈ setTo out n → t < n := fun t ht => setTo_lt ht
    have hnd := setTo_nodup out n
    generalize setTo out n = set at *
    have HN : Hid (Calls Yba.prog 15 #[.slice (some ⟨z, 0, none⟩) n n, .slice (p.map fun b => ⟨b, 0, none⟩) set.length c] w2 (NpPost w R2 n rv wv set)) := np_any h2 hn hB2 hS2 hnd (by omega) hsn hlen (fun i a1 a2 => hE2 i (by unfold Bset; omega))
    clear hB2 hE2 h2
    go_wp2_with fail
    refine HK1.out _ _ ?_
    clear HK1
    refine wp_seq_k (fun K1 hK => ?_)
    have HK1 : Hid _ := hK
    clear hK
    go_wp2_with fail
    refine Calls.mono HN.out ?_
    rintro e w3 ⟨G, R3, b, gx, ks, rds, wrs, rfl, h3, hg3, hc3, hrw3, hz3, hk4, hknd, hklt, hsp, hspn, hmet, hE3⟩
    clear HN
    have hS3 : R3 20 = ⟨p, c, 21, 1, set.length, set.map i32⟩ := (hE3 20 (by unfold Pset; omega)).trans hS2
    have hbd := succF_bd hrw3 hsn
    have hs1 : ∀ i, i < n → succF n set rds wrs i = (rds i).map (n + ·) := fun i hi => by unfold succF; rw [if_pos hi]
    have hs2 : ∀ k, succF n set rds wrs (n + k) = wOf wrs set k := fun k => by unfold succF; rw [if_neg (by omega), Nat.add_sub_cancel_left]
    have hcw1 : ∀ k, k < ks.length → _ := fun k hk => conf_wl (st := 0 + 1) (k := k) (rds := rds) (wrs := wrs) (set := set) (c := ⟨fun _ => 0, fun _ => [], fun _ => []⟩) (by show (0 : Nat) ≠ 0 + 1; omega) (hmet k hk)
    have HC : Hid (Calls Yba.prog 16 #[.pointer (some ⟨G, 0, none⟩), .slice (p.map fun b => ⟨b, 0, none⟩) set.length c] w3 (CycPost w R3 none n ks.length G b 0 (set.foldl (confT (0 + 1) rds wrs) ⟨fun _ => 0, fun _ => [], fun _ => []⟩) (0 + 1200 * set.length) (succF n set rds wrs) set 1000)) :=
      cycles_any h3 hg3 hc3 hrw3 hS3 (by omega) hsn (by omega) (by omega) (by omega) (fun k => ⟨Nat.le_refl _, Nat.le_refl _⟩) (by omega) hz3 (by omega) hs1 (fun k hk => by rw [hs2 k]; exact (hcw1 k hk).2.symm) hbd
    have HRW : Hid (RW R3 n ks.length b rds wrs) := hrw3
    clear h3 hg3 hc3 hz3 hrw3 hsp hspn hE3
    go_wp2_with fail
    refine HK1.out _ _ ?_
    clear HK1
    refine wp_seq_k (fun K1 hK => ?_)
    have HK1 : Hid _ := hK
    clear hK
    go_wp2_with fail
    refine Calls.mono HC.out ?_
    rintro e w4 ⟨v7, R4, gx4, s4, rfl, h4, hg4, hc4, hB4, hz4, hO4, hfd4, hfl4, hE4⟩
    clear HC
    have hlen4 : ∀ c, c ∈ s4.found → c.length ≤ 100000 := fun c hc => by
      have := found_len hbd (fun r hr => by have := hsn r hr; omega) hO4 c hc
      omega
    generalize set.foldl (confT (0 + 1) rds wrs) ⟨fun _ => 0, fun _ => [], fun _ => []⟩ = c4 at *
    have hcw2 : ∀ k, k < ks.length → _ := fun k hk => conf_wl (st := 1 + 1) (k := k) (rds := rds) (wrs := wrs) (set := set) (c := c4) (by rw [(hcw1 k hk).1]; omega) (hmet k hk)
    have hrw4 : RW R4 n ks.length b rds wrs := HRW.out.congr2 hn (fun i hi => hE4 i (by unfold Yset Cset; omega))
    have hS4 : R4 20 = ⟨p, c, 21, 1, set.length, set.map i32⟩ := (hE4 20 (by unfold Yset Cset; omega)).trans hS3
    have h5 := h4.move (i := 31) (j := 33) (by omega)
    obtain ⟨R5, hR5⟩ : ∃ R5, R5 = put (put R4 33 (R4 31)) 31 dead := ⟨_, rfl⟩
    rw [← hR5] at h5
    have hE5 : ∀ i, i ≠ 31 → i ≠ 33 → R5 i = R4 i := fun i a1 a2 => by rw [hR5, put_ne a1, put_ne a2]
    have e33 : R5 33 = R4 31 := by rw [hR5, put_ne (by omega), put_eq]
    clear hR5
    have hg5 : Gs R5 n ks.length G b gx4 (0 + 1) := by obtain ⟨a1, a2, a3, a4, a5, a6, a7, a8, a9, a10, a11⟩ := hg4; exact ⟨(hE5 0 (by omega) (by omega)).trans a1, a2, a3, a4, a5, a6, a7, a8, a9, a10, a11⟩
    have hc5 : Cf R5 n ks.length b c4 := hc4.congr (by omega) (fun i hi => hE5 i (by unfold Cset at hi; omega) (by unfold Cset at hi; omega))
    have hrw5 : RW R5 n ks.length b rds wrs := hrw4.congr2 hn (fun i hi => hE5 i (by omega) (by omega))
    have hz5 : Zero R5 (n + ks.length) b := ⟨(hE5 8 (by omega) (by omega)).trans hz4.z8, (hE5 9 (by omega) (by omega)).trans hz4.z9, (hE5 10 (by omega) (by omega)).trans hz4.z10⟩
    have HC : Hid (Calls Yba.prog 16 #[.pointer (some ⟨G, 0, none⟩), .slice (p.map fun b => ⟨b, 0, none⟩) set.length c] w4 (CycPost w R5 none n ks.length G b (0 + 1) (set.foldl (confT (1 + 1) rds wrs) c4) (0 + 1200 * set.length + 1200 * set.length) (succF n set rds wrs) set 2000)) :=
      cycles_any h5 hg5 hc5 hrw5 ((hE5 20 (by omega) (by omega)).trans hS4) (by omega) hsn (by omega) (by omega) (by omega) hB4 (by omega) hz5 (by omega) hs1 (fun k hk => by rw [hs2 k]; exact (hcw2 k hk).2.symm) hbd
    obtain ⟨N, hN⟩ : ∃ N, N = n + ks.length := ⟨_, rfl⟩
    have hN1 : N ≤ 1000 := by omega
    have cG8 : w4.cell? ⟨G, 8, none⟩ = some (.slice (some ⟨b 8, 0, none⟩) N N) := by rw [hN]; exact h4.cell (i := 0) (by rw [hg4.g0]) (by rw [hg4.g0]; exact hg4.x8)
    have cG9 : w4.cell? ⟨G, 9, none⟩ = some (.slice (some ⟨b 9, 0, none⟩) N N) := by rw [hN]; exact h4.cell (i := 0) (by rw [hg4.g0]) (by rw [hg4.g0]; exact hg4.x9)
    have cG10 : w4.cell? ⟨G, 10, none⟩ = some (.slice (some ⟨b 10, 0, none⟩) N N) := by rw [hN]; exact h4.cell (i := 0) (by rw [hg4.g0]) (by rw [hg4.g0]; exact hg4.x10)
    have cI : ∀ i, i < N → w4.cell? ⟨b 8, i, none⟩ = some (i32 0) := fun i hi => h4.cell (i := 8) (by rw [hz4.z8]) (by rw [hz4.z8]; exact tab_get (by omega))
    have cL : ∀ i, i < N → w4.cell? ⟨b 9, i, none⟩ = some (i32 0) := fun i hi => h4.cell (i := 9) (by rw [hz4.z9]) (by rw [hz4.z9]; exact tab_get (by omega))
    have cO : ∀ i, i < N → w4.cell? ⟨b 10, i, none⟩ = some (.bool false) := fun i hi => h4.cell (i := 10) (by rw [hz4.z10]) (by rw [hz4.z10]; exact tab_get (by omega))
    have HI : Hid _ := cI
    have HL : Hid _ := cL
    have HO : Hid _ := cO
    clear h4 h5 hg4 hc4 hB4 hz4 hg5 hc5 hrw4 hrw5 hz5 HRW hN cI cL cO hcw1 hcw2 hs1 hs2 hE4
    have HE5 : Hid (∀ i, i ≠ 31 → i ≠ 33 → R5 i = R4 i) := hE5
    obtain ⟨p7, q7, _, hv7⟩ := hfd4.row
    subst hv7
    go_wp2_with fail
    refine HK1.out _ _ ?_
    clear HK1
    refine wp_seq_k (fun K1 hK => ?_)
    have HK1 : Hid _ := hK
    clear hK
    refine wp_seq_k (fun K2 hK => ?_)
    have HK2 : Hid _ := hK
    clear hK
    go_wp2_with fail
    refine HK2.out _ _ ?_
    clear HK2
    go_wp2_with fail
    go_loopg [30] N (fun q s30 wx => ∃ (i : Nat), s30 = .int .i64 i ∧ i ≤ N ∧ N - i ≤ q ∧ wx = w4)
    case atStart => exact ⟨0, rfl, Nat.zero_le _, Nat.le_refl _, rfl⟩
    case round =>
      obtain ⟨i, rfl, hil, hiq, hw⟩ := hrel
      subst hw
      by_cases hi : i < N
      · have i1 : (i : Int) < (N : Int) := by omega
        have c1 := HI.out i hi
        have c2 := HL.out i hi
        have c3 := HO.out i hi
        go_wp2_with fail
        go_roundg (N - (i + 1))
        case measure => omega
        case rel => exact ⟨i + 1, by go_num, by omega, by omega, rfl⟩
      · obtain rfl : i = N := by omega
        have i1 : ¬ ((i : Nat) : Int) < (i : Int) := by omega
        go_wp2_with fail
        refine HK1.out _ _ ?_
        clear HK1 cG8 cG9 cG10 HI HL HO
        refine wp_seq_k (fun K1 hK => ?_)
        have HK1 : Hid _ := hK
        clear hK
        go_wp2_with fail
        refine Calls.mono HC.out ?_
        rintro e w6 ⟨v9, R6, gx6, s6, rfl, h6, hg6, hc6, hB6, hz6, hO6, hfd6, hfl6, hE6⟩
        clear HC hg6 hc6 hB6 hz6
        obtain rfl : s4 = s6 := Outer.same hO4 hO6
        obtain ⟨p9, q9, _, hv9⟩ := hfd6.row
        subst hv9
        have e6 : R6 33 = R4 31 := (hE6 33 (by unfold Yset Cset; omega)).trans e33
        have e7 : ∀ j, j < s4.found.length → R6 (1000 + j) = R4 (1000 + j) := fun j hj => (hE6 (1000 + j) (by unfold Yset Cset; omega)).trans (HE5.out (1000 + j) (by omega) (by omega))
        have r7 := hfd4.reads h6 e6 e7 hlen4
        have r9 := hfd6.reads h6 rfl (fun _ _ => rfl) hlen4
        have hfr : s4.found.reverse.length = s4.found.length := by simp
        have HEQ : Hid (Calls Yba.prog 17 #[.slice (p7.map fun b => ⟨b, 0, none⟩) s4.found.length q7, .slice (p9.map fun b => ⟨b, 0, none⟩) s4.found.length q9, .func (.func 18) #[] #[]] w6 fun e w' => e = .returned (.bool true) ∧ Only (fun _ => False) w6 w') := by
          have := equalFunc_any (q := q7) (q' := q9) r7.1 r9.1 (by omega)
          rw [hfr] at this
          exact this
        have HBW : Hid (Below w.heap.size w w6) := h6.below
        clear h6 hfd4 hfd6 hE6 r7 r9 hO4 hO6 e6 e7 hlen4
        go_wp2_with fail
        refine HK1.out _ _ ?_
        clear HK1
        refine wp_seq_k (fun K1 hK => ?_)
        have HK1 : Hid _ := hK
        clear hK
        go_wp2_with fail
        refine Calls.mono HEQ.out ?_
        rintro e w7 ⟨rfl, ho7⟩
        have HP : Hid (LawPost w (.returned (.bool true)) w7) := ⟨rfl, HBW.out.trans (ho7.below HBW.out.size (fun _ _ hf => hf.elim))⟩
        clear ho7
        go_wp2_with fail
        refine HK1.out _ _ ?_
        go_wp2_with fail
        go_ret
        exact HP.out
end Go.Proofs.Ybulkajny
