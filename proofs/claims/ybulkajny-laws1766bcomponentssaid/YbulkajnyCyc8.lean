import Derived.Test.YbulkajnyCyc7
namespace Go.Proofs.Ybulkajny
open Go.RowKit Go.Sort
set_option linter.unusedVariables false

/-- The rows that a call of cycles turns. -/
def Yset (f0 i : Nat) : Prop := Cset i ∨ i = 0 ∨ (8 ≤ i ∧ i ≤ 17) ∨ i = 21 ∨ i = 22 ∨ i = 30 ∨ i = 31 ∨ i = 32 ∨ f0 ≤ i

structure Zero (R : Nat → Row) (N : Nat) (b : Nat → Nat) : Prop where
  z8 : R 8 = ⟨some (b 8), N, 21, 1, N, tab N (fun _ => i32 0)⟩
  z9 : R 9 = ⟨some (b 9), N, 21, 1, N, tab N (fun _ => i32 0)⟩
  z10 : R 10 = ⟨some (b 10), N, 4, 1, N, tab N (fun _ => .bool false)⟩

def CycPost (w0 : World) (R : Nat → Row) (E : Option (Nat × Obj)) (n K G : Nat) (b : Nat → Nat) (st : Nat) (c1 : CS) (M : Nat) (succ : Nat → List Nat) (set : List Nat) (f0 : Nat) (e : Ending) (w' : World) : Prop :=
  ∃ v7 R' gx' s, e = .returned v7 ∧ Fam w0 w' R' E ∧ Gs R' n K G b gx' (st + 1) ∧ Cf R' n K b c1 ∧ LenB c1 M ∧ Zero R' (n + K) b ∧ Outer n succ set init s ∧ Fd R' f0 s.found v7 ∧ s.found.length ≤ 500 ∧ ∀ i, ¬ Yset f0 i → R' i = R i

section
variable {w0 w w' : World} {R R0 : Nat → Row} {E : Option (Nat × Obj)} {n K N : Nat} {b : Nat → Nat} {c : CS} {s : TS}
theorem Tj.seenAt (h : Tj w0 w R0 E N b s) {P : Option Addr} {m q j x : Nat} (hc : w.cell? ⟨b 14, 0, none⟩ = some (.slice P m q)) (hj : s.seen.reverse[j]? = some x) : ∃ g, P = some ⟨g, 0, none⟩ ∧ w.cell? ⟨g, j, none⟩ = some (i32 x) := by
  obtain ⟨R, h, ht, _⟩ := h
  obtain ⟨p, c, hrow⟩ := ht.seen
  have hcell : w.cell? ⟨b 14, 0, none⟩ = some (R 17).val := h.cell (i := 14) (by rw [ht.ebox]) (by rw [ht.ebox]; rfl)
  rw [hc, hrow] at hcell
  cases p with
  | none =>
    have hok := h.ok 17
    rcases hok.2 with ⟨_, hn⟩ | ⟨g, cap, cur, hv, _⟩
    · rw [hrow] at hn
      have : s.seen = [] := List.length_eq_zero_iff.1 hn
      rw [this] at hj; cases hj
    · rw [hrow] at hv; simp [Row.val] at hv
  | some g =>
    simp [Row.val] at hcell
    refine ⟨g, hcell.1, h.cell (i := 17) (by rw [hrow]) ?_⟩
    rw [hrow]
    simp only [List.getElem?_map, hj]
    rfl
theorem Tj.keep14 (h : Tj w0 w R0 E N b s) {i : Nat} (h1 : 8 ≤ i) (h2 : i ≤ 13) (j : Nat) (x v : Value) (hc : w.cell? ⟨b 14, 0, none⟩ = some v) : (w.setCell ⟨b i, j, none⟩ x).cell? ⟨b 14, 0, none⟩ = some v :=
  ((only_setCell w ⟨b i, j, none⟩ x).cell (p := ⟨b 14, 0, none⟩) (h.lt (i := 14) (by omega) (by omega)) (h.ne (i := 14) (j := i) (by omega) (by omega) (by omega) (by omega) (by omega))).trans hc

def zap (f : Nat → Nat) (l : List Nat) : Nat → Nat := fun i => if i ∈ l then 0 else f i
theorem zap_snoc (f : Nat → Nat) (l : List Nat) (x : Nat) : ud (zap f l) x 0 = zap f (l ++ [x]) := by
  funext y
  by_cases e : y = x
  · subst e; simp [ud_eq, zap]
  · rw [ud_ne e]; simp [zap, e]
theorem Tj.congr {s' : TS} (h : Tj w0 w R0 E N b s) (h1 : s'.idx = s.idx) (h2 : s'.low = s.low) (h3 : s'.on = s.on) (h4 : s'.ctr = s.ctr) (h5 : s'.calls = s.calls) (h6 : s'.stk = s.stk) (h7 : s'.seen = s.seen) : Tj w0 w R0 E N b s' := by
  obtain ⟨R, h, ht, hR⟩ := h
  refine ⟨R, h, ⟨?_, ?_, ?_, ?_, ht.cbox, ht.sbox, ht.ebox, ?_, ?_, ?_⟩, hR⟩
  · rw [h1]; exact ht.idx
  · rw [h2]; exact ht.low
  · rw [h3]; exact ht.on
  · rw [h4]; exact ht.ctr
  · rw [h5]; exact ht.calls
  · rw [h6]; exact ht.stk
  · rw [h7]; exact ht.seen

set_option maxRecDepth 100000 in
set_option maxHeartbeats 4000000 in
theorem cycles_any {G st : Nat} {gx : List Value} {rds wrs : Nat → List Nat} {set : List Nat} {B0 f0 : Nat} {ps : Option Nat} {qs : Nat} {succ : Nat → List Nat} (h : Fam w0 w R E) (hg : Gs R n K G b gx st) (hc : Cf R n K b c) (hrw : RW R n K b rds wrs)
    (hset : R 20 = ⟨ps, qs, 21, 1, set.length, set.map i32⟩) (hsl : set.length ≤ 100) (hsn : ∀ t, t ∈ set → t < n) (hst : st ≤ 1000) (hK : K ≤ 200) (hn : n ≤ 200) (hB : LenB c B0) (hB0 : B0 ≤ 300000) (hz : Zero R (n + K) b) (hf0 : 1000 ≤ f0)
    (hs1 : ∀ i, i < n → succ i = (rds i).map (n + ·)) (hs2 : ∀ k, k < K → succ (n + k) = (set.foldl (confT (st + 1) rds wrs) c).wl k) (hbd : ∀ v, v < n + K → ∀ u, u ∈ succ v → u < n + K) :
    Calls Yba.prog 16 #[.pointer (some ⟨G, 0, none⟩), .slice (ps.map fun b => ⟨b, 0, none⟩) set.length qs] w (CycPost w0 R E n K G b st (set.foldl (confT (st + 1) rds wrs) c) (B0 + 1200 * set.length) succ set f0) := by
  have h1 := h.make (i := 21) #[.pointer (some ⟨G, 0, none⟩)] 44 1 1 rfl (by unfold maxLen; omega)
  have hcB : (w.alloc (.cells #[.pointer (some ⟨G, 0, none⟩)] 44)).cell? ⟨w.heap.size, 0, none⟩ = some (.pointer (some ⟨G, 0, none⟩)) := h1.cell (i := 21) (by rw [put_eq]) (by rw [put_eq]; rfl)
  have HCF : Hid _ := confine_any (rds := rds) (wrs := wrs) (set := set) (ps := ps) (qs := qs) h1 (by obtain ⟨a1, a2, a3, a4, a5, a6, a7, a8, a9, a10, a11⟩ := hg; exact ⟨by rw [put_ne (by omega)]; exact a1, a2, a3, a4, a5, a6, a7, a8, a9, a10, a11⟩)
    (hc.congr hK (fun i hi => put_ne (fun e => by subst e; unfold Cset at hi; omega))) (hrw.congr (fun i hi => put_ne (by omega))) (by rw [put_ne (by omega)]; exact hset) hsl hsn hst hK hB (by omega)
  generalize hc1 : set.foldl (confT (st + 1) rds wrs) c = c1 at *
  go_enter Yba.func16, Yba.ntmps16
  refine wp_seq_k (fun K1 hK => ?_)
  have HK1 : Hid _ := hK
  clear hK
  go_wp2_with fail
  refine HK1.out _ _ ?_
  clear HK1
  refine wp_seq_k (fun K1 hK => ?_)
  have HK1 : Hid _ := hK
  clear hK
  go_wp2_with fail
  refine Calls.mono HCF.out ?_
  rintro e w2 ⟨rfl, R2, gx2, h2, hg2, hc2, hL2, hR2⟩
  have HE : Hid (∀ i, ¬ Cset i → i ≠ 0 → i ≠ 32 → i ≠ 21 → R2 i = R i) := fun i a1 a2 a3 a4 => (hR2 i a1 a2 a3).trans (put_ne a4)
  have h21 : R2 21 = ⟨some w.heap.size, 1, 44, 1, 1, [.pointer (some ⟨G, 0, none⟩)]⟩ := by rw [hR2 21 (by unfold Cset; omega) (by omega) (by omega), put_eq]
  clear HCF hcB h1 h hg hc hR2 hB
  go_wp2_with fail
  refine HK1.out _ _ ?_
  clear HK1
  generalize w.heap.size = B at *
  have cB : w2.cell? ⟨B, 0, none⟩ = some (.pointer (some ⟨G, 0, none⟩)) := h2.cell (i := 21) (by rw [h21]) (by rw [h21]; rfl)
  have cG : w2.cell? ⟨G, 0, none⟩ = some (.slice (some ⟨b 1, 0, none⟩) n n) := h2.cell (i := 0) (by rw [hg2.g0]) (by rw [hg2.g0]; exact hg2.x0)
  have hwn : IntKind.i32.wrap (n : Int) = (n : Int) := by rw [IntKind.wrap_i32]; omega
  have h3 := h2.make (i := 22) #[.int .i32 n] 21 1 1 rfl (by unfold maxLen; omega)
  refine wp_seq_k (fun K1 hK => ?_)
  have HK1 : Hid _ := hK
  clear hK
  go_wp2_with fail
  refine HK1.out _ _ ?_
  clear HK1 cB cG hwn
  generalize hw3 : w2.alloc (.cells #[.int .i32 (n : Int)] 21) = w3 at *
  generalize hNB : w2.heap.size = NB at *
  have HR3 : Hid (∀ i, i ≠ 22 → put R2 22 ⟨some NB, 1, 21, 1, 1, (#[.int .i32 (n : Int)] : Array Value).toList⟩ i = R2 i) := fun i hi => put_ne hi
  have h22 : put R2 22 ⟨some NB, 1, 21, 1, 1, (#[.int .i32 (n : Int)] : Array Value).toList⟩ 22 = ⟨some NB, 1, 21, 1, 1, [i32 n]⟩ := put_eq
  generalize put R2 22 ⟨some NB, 1, 21, 1, 1, (#[.int .i32 (n : Int)] : Array Value).toList⟩ = R3 at *
  have nC : ∀ i, i < 30 → i ≠ 3 → i ≠ 4 → i ≠ 5 → i ≠ 7 → ¬ Cset i := fun i _ _ _ _ _ => by unfold Cset; omega
  have e8 : ∀ i, 8 ≤ i → i ≤ 10 → R3 i = R i := fun i h1 h2 => (HR3.out i (by omega)).trans (HE.out i (nC i (by omega) (by omega) (by omega) (by omega) (by omega)) (by omega) (by omega) (by omega))
  have hT0 := Tj.start (N := n + K) (b := b) h3 ((e8 8 (by omega) (by omega)).trans hz.z8) ((e8 9 (by omega) (by omega)).trans hz.z9) ((e8 10 (by omega) (by omega)).trans hz.z10)
  have hrw3 : RW R3 n K b rds wrs := hrw.congr (fun i hi => (HR3.out i (by omega)).trans (HE.out i (by unfold Cset; omega) (by omega) (by omega) (by omega)))
  have hc3 : Cf R3 n K b c1 := hc2.congr (by omega) (fun i hi => HR3.out i (fun e => by subst e; unfold Cset at hi; omega))
  have hset3 : R3 20 = ⟨ps, qs, 21, 1, set.length, set.map i32⟩ := (HR3.out 20 (by omega)).trans ((HE.out 20 (nC 20 (by omega) (by omega) (by omega) (by omega) (by omega)) (by omega) (by omega) (by omega)).trans hset)
  have g03 : R3 0 = ⟨some G, 1, 49, 15, 1, gx2⟩ := (HR3.out 0 (by omega)).trans hg2.g0
  have h213 : R3 21 = _ := (HR3.out 21 (by omega)).trans h21
  generalize hz0 : w3.heap.size = z at *
  have bb : ∀ i, i ≤ 10 → bx b z i = b i := fun i hi => by unfold bx; rw [if_neg (by omega), if_neg (by omega), if_neg (by omega), if_neg (by omega)]
  have b11 : bx b z 11 = z := rfl
  have b12 : bx b z 12 = z + 1 := rfl
  have b13 : bx b z 13 = z + 2 := rfl
  have b14 : bx b z 14 = z + 3 := rfl
  have hE3 : Env R3 n K G (bx b z) succ B NB := by
    refine ⟨⟨gx2, st + 1, g03, ?_, ?_, ?_, ?_, ?_, hg2.x6, ?_, ?_, ?_, ?_⟩, ⟨?_, ?_, fun i hi => ?_, fun k hk => ?_, fun v hv => ?_, hbd⟩, h213, h22⟩
    · rw [bb 1 (by omega)]; exact hg2.x0
    · rw [bb 2 (by omega)]; exact hg2.x1
    · rw [bb 3 (by omega)]; exact hg2.x3
    · rw [bb 4 (by omega)]; exact hg2.x4
    · rw [bb 5 (by omega)]; exact hg2.x5
    · rw [bb 7 (by omega)]; exact hg2.x7
    · rw [bb 8 (by omega)]; exact hg2.x8
    · rw [bb 9 (by omega)]; exact hg2.x9
    · rw [bb 10 (by omega)]; exact hg2.x10
    · rw [bb 1 (by omega)]; exact hrw3.r1
    · rw [bb 4 (by omega)]; exact hc3.r4
    · obtain ⟨p, q, hr⟩ := hrw3.rd i hi
      exact ⟨p, q, rds i, hr, hs1 i hi⟩
    · obtain ⟨p, q, hr⟩ := hc3.ws k hk
      exact ⟨p, q, by rw [hs2 k hk]; exact hr⟩
    · by_cases hvn : v < n
      · rw [hs1 v hvn, List.length_map]; have := hrw3.rl v hvn; omega
      · obtain ⟨k, rfl⟩ : ∃ k, v = n + k := ⟨v - n, by omega⟩
        rw [hs2 k (by omega)]
        have := (hL2 k).2
        omega
  have hF0 : Fd (put R3 31 ⟨none, 0, 22, 1, 0, []⟩) f0 init.found (.slice none 0 0) := ⟨⟨none, 0, put_eq, rfl⟩, fun j l hj => by cases hj⟩
  have hT0' := hT0.dropRow (i := 31) (by omega) 22 1
  have HT0 : Hid (Tj w0 ((((w3.alloc (.cells #[.int .i32 0] 21)).alloc (.cells #[.slice none 0 0] 78)).alloc (.cells #[.slice none 0 0] 22)).alloc (.cells #[.slice none 0 0] 22)) (put R3 31 ⟨none, 0, 22, 1, 0, []⟩) E (n + K) (bx b z) init) := hT0'
  have HPOST : Hid (∀ (v7 : Value) (wx : World) (Rx : Nat → Row) (s : TS), Tj w0 wx Rx E (n + K) (bx b z) { s with idx := zap s.idx s.seen.reverse, low := zap s.low s.seen.reverse } → Clean (n + K) succ s → FL s → Outer n succ set init s → Fd Rx f0 s.found v7 → (∀ i, ¬ Fset f0 i → Rx i = R3 i) → CycPost w0 R E n K G b st c1 (B0 + 1200 * set.length) succ set f0 (.returned v7) wx) := by
    intro v7 wx Rx s hTx hCl hFl hO hFd hRx
    obtain ⟨RR, hf, hts, hRR⟩ := hTx
    have hmem : ∀ i, zap s.idx s.seen.reverse i = 0 := fun i => by
      unfold zap
      by_cases hi : i ∈ s.seen
      · rw [if_pos (by simpa using hi)]
      · rw [if_neg (by simpa using hi)]; exact (hCl.idx0 i).2 hi
    have hmem2 : ∀ i, zap s.low s.seen.reverse i = 0 := fun i => by
      unfold zap
      by_cases hi : i ∈ s.seen
      · rw [if_pos (by simpa using hi)]
      · rw [if_neg (by simpa using hi)]
        have h1 := (hCl.idx0 i).2 hi
        have h2 := hCl.low i
        omega
    have hoff : ∀ i, s.on i = false := fun i => by
      cases ho : s.on i with
      | false => rfl
      | true => have := (hCl.on i).1 ho; rw [hCl.s0] at this; cases this
    have hx : ∀ i, ¬ (8 ≤ i ∧ i ≤ 17) → ¬ Fset f0 i → RR i = R3 i := fun i a1 a2 => (hRR i a1).trans (hRx i a2)
    refine ⟨v7, RR, gx2, s, rfl, hf, ⟨(hx 0 (by omega) (by unfold Fset; omega)).trans g03, hg2.x0, hg2.x1, hg2.x3, hg2.x4, hg2.x5, hg2.x6, hg2.x7, hg2.x8, hg2.x9, hg2.x10⟩, hc3.congr (by omega) (fun i hi => hx i (by unfold Cset at hi; omega) (by unfold Cset at hi; unfold Fset; omega)), hL2, ⟨?_, ?_, ?_⟩, hO, hFd.env (fun i hi => hRR i (by omega)), ?_, fun i hi => ?_⟩
    · have := hts.idx
      rw [bb 8 (by omega)] at this
      rw [this]
      simp only [Row.mk.injEq, true_and]
      exact tab_congr (fun j _ => by rw [hmem j])
    · have := hts.low
      rw [bb 9 (by omega)] at this
      rw [this]
      simp only [Row.mk.injEq, true_and]
      exact tab_congr (fun j _ => by rw [hmem2 j])
    · have := hts.on
      rw [bb 10 (by omega)] at this
      rw [this]
      simp only [Row.mk.injEq, true_and]
      exact tab_congr (fun j _ => by rw [show ({ s with idx := zap s.idx s.seen.reverse, low := zap s.low s.seen.reverse } : TS).on j = s.on j from rfl, hoff j])
    · have := hCl.toTI.seen_le
      unfold FL at hFl
      omega
    · have hi' : ¬ Cset i ∧ i ≠ 0 ∧ ¬ (8 ≤ i ∧ i ≤ 17) ∧ i ≠ 21 ∧ i ≠ 22 ∧ ¬ Fset f0 i ∧ i ≠ 32 := by
        unfold Yset at hi
        unfold Fset
        refine ⟨fun e => hi (.inl e), fun e => hi (.inr (.inl e)), fun e => hi (.inr (.inr (.inl e))), fun e => hi (by omega), fun e => hi (by omega), fun e => hi (by omega), fun e => hi (by omega)⟩
      obtain ⟨a1, a2, a3, a4, a5, a6, a7⟩ := hi'
      exact (hx i a3 a6).trans ((HR3.out i a5).trans (HE.out i a1 a2 a7 a4))
  have HEE : Hid _ := hE3
  have hb11 : z = bx b z 11 := rfl
  clear hT0 hT0' hc3 hrw3 hrw hz hs1 hs2 hL2 hg2 hc2 h21 h213 h22 g03 h2 h3 e8 HE HR3 hE3 bb hb11
  go_wp2_with fail
  have q12 : z + 1 = bx b z 12 := rfl
  have q13 : z + 1 + 1 = bx b z 13 := rfl
  have q14 : z + 1 + 1 + 1 = bx b z 14 := rfl
  have q11 : z = bx b z 11 := rfl
  rw [q14, q13, q12]
  clear q14 q13 q12 b11 b12 b13 b14
  generalize bx b z = b' at *
  rw [q11]
  generalize (((w3.alloc (.cells #[.int .i32 0] 21)).alloc (.cells #[.slice none 0 0] 78)).alloc (.cells #[.slice none 0 0] 22)).alloc (.cells #[.slice none 0 0] 22) = w4 at *
  clear q11 hw3 hNB hz0
  go_loopg [7, 37] set.length (fun q s7 s37 wx => ∃ (j : Nat) (s : TS) (Rx : Nat → Row), s37 = .int .i64 j ∧ j ≤ set.length ∧ set.length - j ≤ q ∧ Outer n succ (set.take j) init s ∧ Clean (n + K) succ s ∧ FL s ∧ Tj w0 wx Rx E (n + K) b' s ∧ Fd Rx f0 s.found s7 ∧ (∀ i, ¬ Fset f0 i → Rx i = R3 i))
  case atStart => exact ⟨0, init, _, rfl, Nat.zero_le _, Nat.le_refl _, rfl, Clean.init, Nat.le_refl _, HT0.out, hF0, fun i hi => put_ne (fun e => hi (.inr (.inl e)))⟩
  case round =>
    obtain ⟨j, s, Rx, rfl, hjl, hjq, hO, hCl, hFl, hT, hFd, hRx⟩ := hrel
    have hEx : Env Rx n K G b' succ B NB := Env.env HEE.out (by omega) hn hf0 hRx
    obtain ⟨gy, sy, hgy⟩ := hEx.gs
    by_cases hj : j < set.length
    · obtain ⟨t, ht⟩ : ∃ t, set[j]? = some t := ⟨set[j], List.getElem?_eq_getElem hj⟩
      have htn := hsn t (List.mem_of_getElem? ht)
      have e20 : Rx 20 = ⟨ps, qs, 21, 1, set.length, set.map i32⟩ := (hRx 20 (by unfold Fset; omega)).trans hset3
      obtain ⟨gs, rfl⟩ : ∃ g, ps = some g := by
        have := hT.row (i := 20) (by omega)
        rw [e20] at this
        exact this.at ht
      have hct : wr.cell? ⟨gs, j, none⟩ = some (i32 t) := hT.cell (i := 20) (by omega) (by rw [e20]) (by rw [e20]; simp [ht])
      have htake : set.take (j + 1) = set.take j ++ [t] := by rw [List.take_add_one, ht]; rfl
      have cB : wr.cell? ⟨B, 0, none⟩ = some (.pointer (some ⟨G, 0, none⟩)) := hT.cell (i := 21) (by omega) (by rw [hEx.box]) (by rw [hEx.box]; rfl)
      have cG8 : wr.cell? ⟨G, 8, none⟩ = some (.slice (some ⟨b' 8, 0, none⟩) (n + K) (n + K)) := hT.cell (i := 0) (by omega) (by rw [hgy.g0]) (by rw [hgy.g0]; exact hgy.x8)
      have cI : wr.cell? ⟨b' 8, t, none⟩ = some (i32 (s.idx t)) := hT.cIdx (by omega)
      have t1 : (t : Int) < ((n + K : Nat) : Int) := by omega
      have t2 : (t : Int) < (n : Int) + (K : Int) := by omega
      have j1 : (j : Int) < (set.length : Int) := by omega
      by_cases h0 : s.idx t = 0
      · rw [h0] at cI
        have l1 := hCl.toTI.seen_le
        have l2 := hCl.ctr
        have HOP : Hid (Calls Yba.prog 28 #[i32 t, .pointer (some ⟨b' 11, 0, none⟩), .pointer (some ⟨B, 0, none⟩), .pointer (some ⟨b' 13, 0, none⟩), .pointer (some ⟨b' 14, 0, none⟩), .pointer (some ⟨b' 12, 0, none⟩)] wr fun e w' => e = .returned (.tuple #[]) ∧ Tj w0 w' Rx E (n + K) b' (openN s t)) :=
          open_any hgy hT B hEx.box t (by omega) (by omega) (by rw [hCl.c0]; simp) (by rw [hCl.s0]; simp) (by omega)
        go_wp2_with fail
        refine Calls.mono HOP.out ?_
        rintro e w5 ⟨rfl, hT5⟩
        have HT5 : Hid _ := hT5
        clear hT5 HOP cB cG8 cI hct hT
        have hTI := hCl.toTI.open (v := t) (by omega) h0 (fun _ => hCl.s0)
        have hFL5 : FL (openN s t) := by unfold FL at *; simp [openN]; omega
        have HFD5 : Hid (Fd Rx f0 (openN s t).found _) := hFd
        clear hFd
        go_wp2_with fail
        go_loopg [7] (phi (n + K) succ (openN s t)) (fun q s7 wx => ∃ (k : Nat) (s2 : TS) (Ry : Nat → Row), iter n succ k (openN s t) = s2 ∧ TI (n + K) succ s2 ∧ (s2.calls = [] → Clean (n + K) succ s2) ∧ FL s2 ∧ phi (n + K) succ s2 ≤ q ∧ Tj w0 wx Ry E (n + K) b' s2 ∧ Fd Ry f0 s2.found s7 ∧ (∀ i, ¬ Fset f0 i → Ry i = Rx i))
        case atStart => exact ⟨0, openN s t, Rx, rfl, hTI, fun e => (by cases e), hFL5, Nat.le_refl _, HT5.out, HFD5.out, fun _ _ => rfl⟩
        case round =>
          obtain ⟨k, s2, Ry, hk, hTI2, hCl2, hFL2, hph, hT2, hFd2, hRy⟩ := hrel
          obtain ⟨P, q, hcl⟩ := hT2.callsLen
          have hRy3 : ∀ i, ¬ Fset f0 i → Ry i = R3 i := fun i hi => (hRy i hi).trans (hRx i hi)
          by_cases hc0 : s2.calls = []
          · rw [hc0] at hcl
            simp only [List.length_nil] at hcl
            have hO2 : Outer n succ (set.take (j + 1)) init s2 := by rw [htake]; exact hO.snoc (.inr ⟨h0, k, hk, hc0⟩)
            have HT6 : Hid _ := hT2
            have HF6 : Hid _ := hFd2
            clear hT2 hFd2
            go_wp2_with fail
            go_roundg (set.length - (j + 1))
            case measure => omega
            case rel => exact ⟨j + 1, s2, Ry, by go_num, by omega, by omega, hO2, hCl2 hc0, hFL2, HT6.out, HF6.out, hRy3⟩
          · have hEy : Env Ry n K G b' succ B NB := Env.env HEE.out (by omega) hn hf0 hRy3
            have hL : (0 : Int) < (s2.calls.length : Int) := by have := List.length_pos_iff.2 hc0; omega
            refine wp_seq_k (fun K1 hK => ?_)
            have HK1 : Hid _ := hK
            clear hK
            go_wp2_with fail
            refine HK1.out _ _ ?_
            clear HK1 hcl
            refine round_any hEy hT2 hTI2 (by omega) hFd2 hf0 ?_ hc0 hFL2 hbd
            intro x7 x15 x16 x17 x18 x19 x20 x21 x55 x56 x57 x58 x59 x60 x61 x62 x63 x64 x65 x66 x67 x68 x69 x70 x71 x72 x73 x74 x75 x76 x77 x78 x79 x80 x81 x82 x83 x84 x85 x86 x87 x88 x89 x90 x91 x92 x93 x94 x95 x96 x97 x98 x99 x100 x101 x102 x103 x104 x105 x106 x107 x108 x109 x110 x111 x112 x113 x114 x115 x116 x117 x118 x119 x120 x121 x122 x123 x124 x125 x126 x127 x128 x129 x130 x131 x132 x133 x134 x135 x136 x137 x138 x139 x140 x141 x142 x143 x144 x145 x146 x147 x148 x149 x150 x151 x152 x153 x154 x155 x156 x157 x158 x159 x160 x161 x162 x163 x164 x165 x166 x167 x168 x169 x170 x171 x172 x173 x174 x175 x176 x177 x178 x179 x180 x181 x182 x183 x184 x185 x186 x187 x188 x189 x190 x191 x192 x193 x194 x195 x196 x197 x198 x199 x200 x201 x202 w' R' e1 e2 e3
            obtain ⟨d1, d2, d3⟩ := hTI2.step (n := n) hbd hc0
            have hFL3 := hFL2.step (n := n) hTI2
            have HE3 : Hid _ := e3
            have HE2 : Hid _ := e2
            clear e2 e3 hT2 hFd2
            go_wp2_with fail
            go_roundg (phi (n + K) succ (step n succ s2))
            case measure => omega
            case rel => exact ⟨k + 1, step n succ s2, R', by rw [iter_succ, hk], d1, d2, hFL3, Nat.le_refl _, HE3.out, HE2.out, fun i hi => (e1 i hi).trans (hRy i hi)⟩
      · have hnz : (((s.idx t : Nat) : Int) != 0) = true := by rw [bne_iff_ne]; omega
        have hO2 : Outer n succ (set.take (j + 1)) init s := by rw [htake]; exact hO.snoc (.inl ⟨h0, rfl⟩)
        have HT6 : Hid _ := hT
        have HF6 : Hid _ := hFd
        clear hT hFd
        go_wp2_with fail
        go_roundg (set.length - (j + 1))
        case measure => omega
        case rel => exact ⟨j + 1, s, Rx, by go_num, by omega, by omega, hO2, hCl, hFl, HT6.out, HF6.out, hRx⟩
    · obtain rfl : j = set.length := by omega
      rw [List.take_length] at hO
      have j1 : ¬ (set.length : Int) < (set.length : Int) := by omega
      obtain ⟨P, q, hse⟩ := hT.seenLen
      have l1 := hCl.toTI.seen_le
      have HF6 : Hid _ := hFd
      clear hFd
      go_wp2_with fail
      go_loopg [206] s.seen.length (fun q' s206 wx => ∃ j : Nat, s206 = .int .i64 j ∧ j ≤ s.seen.length ∧ s.seen.length - j ≤ q' ∧ wx.cell? ⟨b' 14, 0, none⟩ = some (.slice P s.seen.length q) ∧ Tj w0 wx Rx E (n + K) b' { s with idx := zap s.idx (s.seen.reverse.take j), low := zap s.low (s.seen.reverse.take j) })
      case atStart =>
        refine ⟨0, rfl, Nat.zero_le _, Nat.le_refl _, hse, ?_⟩
        refine hT.congr ?_ ?_ rfl rfl rfl rfl rfl
        · funext y; simp [zap]
        · funext y; simp [zap]
      case round =>
        obtain ⟨i, rfl, hil, hiq, hse1, hT1⟩ := hrel
        by_cases hi : i < s.seen.length
        · obtain ⟨x, hx⟩ : ∃ x, s.seen.reverse[i]? = some x := ⟨s.seen.reverse[i]'(by simpa using hi), List.getElem?_eq_getElem _⟩
          have hxN : x < n + K := hCl.lt x (by have := List.mem_of_getElem? hx; simpa using this)
          obtain ⟨g, rfl, hcx⟩ := hT1.seenAt hse1 hx
          have htk : s.seen.reverse.take (i + 1) = s.seen.reverse.take i ++ [x] := by rw [List.take_add_one, hx]; rfl
          have cB : wr.cell? ⟨B, 0, none⟩ = some (.pointer (some ⟨G, 0, none⟩)) := hT1.cell (i := 21) (by omega) (by rw [hEx.box]) (by rw [hEx.box]; rfl)
          have cG8 : wr.cell? ⟨G, 8, none⟩ = some (.slice (some ⟨b' 8, 0, none⟩) (n + K) (n + K)) := hT1.cell (i := 0) (by omega) (by rw [hgy.g0]) (by rw [hgy.g0]; exact hgy.x8)
          have cG9 : wr.cell? ⟨G, 9, none⟩ = some (.slice (some ⟨b' 9, 0, none⟩) (n + K) (n + K)) := hT1.cell (i := 0) (by omega) (by rw [hgy.g0]) (by rw [hgy.g0]; exact hgy.x9)
          have cI := hT1.cIdx hxN
          have cL := hT1.cLow hxN
          have fI := hT1.free (i := 8) (by omega) (by omega) x
          have fL := hT1.free (i := 9) (by omega) (by omega) x
          have n1 : b' 8 ≠ b' 9 := hT1.ne (by omega) (by omega) (by omega) (by omega) (by omega)
          have n4 : b' 8 ≠ G := hT1.ne0 (j := 0) (by omega) (by omega) (by omega) (by rw [hgy.g0])
          have n5 : b' 9 ≠ G := hT1.ne0 (j := 0) (by omega) (by omega) (by omega) (by rw [hgy.g0])
          have n6 : b' 8 ≠ B := hT1.ne0 (j := 21) (by omega) (by omega) (by omega) (by rw [hEx.box])
          have n7 : b' 9 ≠ B := hT1.ne0 (j := 21) (by omega) (by omega) (by omega) (by rw [hEx.box])
          have i1 : (i : Int) < (s.seen.length : Int) := by omega
          have x1 : (x : Int) < ((n + K : Nat) : Int) := by omega
          have x2 : (x : Int) < (n : Int) + (K : Int) := by omega
          have HT2 : Hid (Tj w0 ((wr.setCell ⟨b' 8, x, none⟩ (.int .i32 0)).setCell ⟨b' 9, x, none⟩ (.int .i32 0)) Rx E (n + K) b' { s with idx := zap s.idx (s.seen.reverse.take (i + 1)), low := zap s.low (s.seen.reverse.take (i + 1)) }) := by
            refine ((hT1.setIdx x 0).setLow x 0).congr ?_ ?_ rfl rfl rfl rfl rfl
            · show zap s.idx (s.seen.reverse.take (i + 1)) = ud (zap s.idx (s.seen.reverse.take i)) x 0
              rw [zap_snoc, htk]
            · show zap s.low (s.seen.reverse.take (i + 1)) = ud (zap s.low (s.seen.reverse.take i)) x 0
              rw [zap_snoc, htk]
          have HSE : Hid (((wr.setCell ⟨b' 8, x, none⟩ (.int .i32 0)).setCell ⟨b' 9, x, none⟩ (.int .i32 0)).cell? ⟨b' 14, 0, none⟩ = some (.slice (some ⟨g, 0, none⟩) s.seen.length q)) := (hT1.setIdx x 0).keep14 (i := 9) (by omega) (by omega) x _ _ (hT1.keep14 (i := 8) (by omega) (by omega) x _ _ hse1)
          clear hT1 hse1 hT hse
          go_wp2_with fail
          refine wp_region_noPanic ?_
          go_region
          refine NoPanic.normal ?_
          clear cB cG8 cG9 cI cL fI fL n1 n4 n5 n6 n7 hcx
          go_wp2_with fail
          go_roundg (s.seen.length - (i + 1))
          case measure => omega
          case rel => exact ⟨i + 1, by go_num, by omega, by omega, HSE.out, by first | exact HT2.out | exact Tj.drew HT2.out⟩
        · obtain rfl : i = s.seen.length := by omega
          have i1 : ¬ (s.seen.length : Int) < (s.seen.length : Int) := by omega
          have e : s.seen.reverse.take s.seen.length = s.seen.reverse := List.take_of_length_le (by simp)
          rw [e] at hT1
          have HT2 : Hid _ := hT1
          clear hT1 hse1 hT hse
          go_wp2_with fail
          go_ret
          exact HPOST.out _ _ Rx s HT2.out hCl hFl hO HF6.out hRx
end
end Go.Proofs.Ybulkajny
