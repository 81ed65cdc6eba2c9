import Derived.Test.YbulkajnyHeapPush
import Derived.Test.YbulkajnySort
import Derived.ProofKit
import Derived.OpenShut
import Derived.ShutString
import Derived.ChangeOld
import Derived.WalkSmall
namespace Go.Proofs.Ybulkajny.lawS1766AHeapSort
open Go.RowKit Go.Sort

theorem only_of_below {w w' : World} (h : Below w.heap.size w w') : Only (fun _ => False) w w' := ⟨h.os, h.tape, h.output, h.size, fun k hk _ => h.block k hk⟩

set_option maxRecDepth 100000 in
/-- slices.Clone at []int32, the slice not nil. -/
theorem clone_any (b off n c : Nat) (zs : List Int) (w : World) (hl : zs.length = n) (hn : n ≤ 1024) (hc : ∀ j, j < n → w.cell? ⟨b, off + j, none⟩ = some (.int .i32 (zs.getD j 0))) :
    Calls Yba.prog 9 #[.slice (some ⟨b, off, none⟩) n c] w fun e w' => ∃ g cap, e = .returned (.slice (some ⟨g, 0, none⟩) n cap) ∧ RowAt e32 21 w' g cap zs.toArray ∧ w.heap.size ≤ g ∧ Below w.heap.size w w' := by
  have q22 := fun (w : World) (a : Option Addr) (n c n' c' : Nat) => Lib.run_eql_slice_nil (P := Yba.prog) w 22 21 a n c n' c' Yba.underlying22
  obtain ⟨i0, hi0, hz0, hz1, hz2⟩ := info_parts info21
  go_enter Yba.func9, Yba.ntmps9
  go_wp2_with (at_builtin; refine wpList_append_own _ rfl _ _ 22 rfl w.heap.size 21 i0 (.int .i32 0) 1 4 Yba.underlying22 hi0 hz0 hz1 hz2 rfl (by omega) _ _ _ rfl (World.ownsRow_made w #[] 0 (Nat.le_refl _) (Nat.zero_le _) (by simp)) ⟨b, off, none⟩ n c (zs.map e32) rfl ?qc1 ?qc2 ?qc3 ?qc4 ?qc5 ?qc6 ?_)
  case qc1 => simp [hl]
  case qc2 =>
    intro j u hj
    have hjn : j < n := by
      have := (List.getElem?_eq_some_iff.1 hj).1
      simpa [hl] using this
    have hu : u = .int .i32 (zs.getD j 0) := by
      simp at hj
      obtain ⟨z, hz, rfl⟩ := hj
      simp [hz]
    have hcj := hc j hjn
    rw [hu, WideShapes.add_plain]
    exact (((Below.refl _ w).alloc (Nat.le_refl _) _).cell (p := ⟨b, off + j, none⟩) (World.block_lt_of_cell? w _ hcj)).trans hcj
  case qc3 => exact ints_oneCell _ _
  case qc4 => rw [Nat.zero_add]; unfold maxLen; omega
  case qc5 => rw [Nat.zero_add]; omega
  case qc6 => simp
  intro v' w1 hown hgrow hnil
  have hb : Below w.heap.size w w1 := ((Below.refl _ w).alloc (Nat.le_refl _) _).grown hgrow (by simp) (by intro k hk; simp [Value.ownBlock] at hk; omega)
  have hex : ∃ g cap, v' = .slice (some ⟨g, 0, none⟩) n cap := by
    rcases hown.2 with ⟨hv, _⟩ | ⟨g, cap, cur, hv, _⟩
    · exact absurd hv hnil
    · exact ⟨g, cap, by simpa using hv⟩
  obtain ⟨g, cap, hv⟩ := hex
  have hown' : w1.ownsRow w.heap.size 21 1 (.slice (some ⟨g, 0, none⟩) n cap) n (zs.map e32) := by
    have := hown; rw [hv] at this; simpa using this
  obtain ⟨hr, hg⟩ := RowAt.of_owns (enc := e32) (d := zs.toArray) hown' (by simp [hl]) (by simp)
  clear hown hown' hgrow hnil
  rw [hv]
  go_wp2
  go_ret
  exact ⟨g, cap, rfl, hr, hg, hb⟩

set_option maxRecDepth 100000 in
/-- slices.Clone of no element (nil too). -/
theorem clone_none (p : Option Addr) (c : Nat) (w : World) :
    Calls Yba.prog 9 #[.slice p 0 c] w fun e w' => (∃ q cap, e = .returned (.slice q 0 cap)) ∧ Below w.heap.size w w' := by
  have q22 := fun (w : World) (a : Option Addr) (n c n' c' : Nat) => Lib.run_eql_slice_nil (P := Yba.prog) w 22 21 a n c n' c' Yba.underlying22
  obtain ⟨i0, hi0, hz0, hz1, hz2⟩ := info_parts info21
  cases p with
  | none =>
    go_enter Yba.func9, Yba.ntmps9
    go_wp2
    go_ret
    exact ⟨⟨_, _, rfl⟩, Below.refl _ _⟩
  | some ad =>
    go_enter Yba.func9, Yba.ntmps9
    go_wp2_with (at_builtin; refine wpList_append_own _ rfl _ _ 22 rfl w.heap.size 21 i0 (.int .i32 0) 1 4 Yba.underlying22 hi0 hz0 hz1 hz2 rfl (by omega) _ _ _ rfl (World.ownsRow_made w #[] 0 (Nat.le_refl _) (Nat.zero_le _) (by simp)) ad 0 c [] rfl ?qc1 ?qc2 ?qc3 ?qc4 ?qc5 ?qc6 ?_)
    case qc1 => rfl
    case qc2 => intro j u hj; simp at hj
    case qc3 => simp
    case qc4 => simp
    case qc5 => simp
    case qc6 => simp
    intro v' w1 hown hgrow hnil
    have hb : Below w.heap.size w w1 := ((Below.refl _ w).alloc (Nat.le_refl _) _).grown hgrow (by simp) (by intro k hk; simp [Value.ownBlock] at hk; omega)
    have hex : ∃ q cap, v' = .slice q 0 cap := by
      rcases hown.2 with ⟨hv, _⟩ | ⟨g, cap, cur, hv, _⟩
      · exact ⟨_, _, hv⟩
      · exact ⟨_, cap, by simpa using hv⟩
    obtain ⟨q, cap, hv⟩ := hex
    clear hown hgrow hnil
    rw [hv]
    go_wp2
    go_ret
    exact ⟨⟨q, cap, rfl⟩, hb⟩

theorem walk_long1 (a0 : Option Addr) (len0 cap0 : Nat) (w : World) (h : 1024 < len0) :
    Calls Yba.prog 4 #[.slice a0 len0 cap0] w fun e w' => e = .returned (.bool true) ∧ Below w.heap.size w w' := by
  go_enter Yba.func4, Yba.ntmps4
  go_wp2
  go_ret
  exact ⟨rfl, Below.refl _ _⟩

theorem hp_start (w : World) : HP w.heap.size (w.heap.size + 1) w.heap.size 0 #[] ((w.alloc (.cells #[] 21)).alloc (.cells #[.slice (some ⟨w.heap.size, 0, none⟩) 0 0] 23)) := by
  refine ⟨?_, ⟨#[], ?_, rfl, Nat.le_refl _, Nat.zero_le _, rfl⟩, by omega, by omega, Nat.le_refl _⟩
  · have := heap_alloc_new (w.alloc (.cells #[] 21)) (.cells #[.slice (some ⟨w.heap.size, 0, none⟩) 0 0] 23)
    simpa using this
  · rw [Below.heap_alloc _ _ _ (by simp)]; exact heap_alloc_new w _

theorem below_start (w : World) : Below w.heap.size w ((w.alloc (.cells #[] 21)).alloc (.cells #[.slice (some ⟨w.heap.size, 0, none⟩) 0 0] 23)) :=
  ((Below.refl _ _).alloc (Nat.le_refl _) _).alloc (by simp) _

theorem perm_take (zs : List Int) (k : Nat) (hk : k < zs.length) (l : List Int) (h : l.Perm (zs.take k)) : (zs.getD k 0 :: l).Perm (zs.take (k + 1)) := by
  rw [List.take_succ_eq_append_getElem hk]
  have e : zs.getD k 0 = zs[k] := by simp [hk]
  rw [e]
  exact (List.Perm.cons _ h).trans (List.perm_append_singleton _ _).symm

theorem below_only {S : Nat → Prop} {B : Nat} {w0 w w' : World} (h : Below B w0 w) (ho : Only S w w') (hB : B ≤ w.heap.size) (hS : ∀ k, S k → B ≤ k) : Below B w0 w' :=
  h.trans (ho.below hB (fun k _ hk => hS k hk))

/-- Behind the pushes: the heap holds all items. -/
def Pushed (w : World) (zs : List Int) (g c : Nat) (d : Array Int) (wr : World) : Prop :=
  HP w.heap.size (w.heap.size + 1) g c d wr ∧ IsHeap ltInt d.size d ∧ d.toList.Perm zs ∧ Below w.heap.size w wr

theorem pushed_step {w wr w' : World} {zs : List Int} {k g c : Nat} {d : Array Int} {g' c' : Nat} (h : Pushed w (zs.take k) g c d wr) (hk : k < zs.length)
    (hp : HP w.heap.size (w.heap.size + 1) g' c' (heapUp ltInt d.size d.size (d.push (zs.getD k 0))) w') (ho : Only (fun j => j = w.heap.size + 1 ∨ j = g) wr w') :
    Pushed w (zs.take (k + 1)) g' c' (heapUp ltInt d.size d.size (d.push (zs.getD k 0))) w' := by
  obtain ⟨h1, h2, h3, h4⟩ := h
  obtain ⟨r1, r2⟩ := heap_push swo_ltInt d (zs.getD k 0) h2
  refine ⟨hp, by rw [size_heapUp, Array.size_push]; exact r1, r2.trans (perm_take zs k hk _ h3), below_only h4 ho h4.size (fun j hj => ?_)⟩
  have := h1.hg
  rcases hj with rfl | rfl <;> omega

abbrev srt (zs : List Int) : List Int := zs.mergeSort fun x y => decide (x ≤ y)

theorem srt_pairwise (zs : List Int) : (srt zs).Pairwise (· ≤ ·) := by
  have := List.pairwise_mergeSort (le := fun (x y : Int) => decide (x ≤ y)) (by intro a b c h1 h2; simp at *; omega) (by intro a b; simp; omega) zs
  exact this.imp (by intro a b h; simpa using h)
theorem srt_perm (zs : List Int) : (srt zs).Perm zs := List.mergeSort_perm _ _
theorem srt_length (zs : List Int) : (srt zs).length = zs.length := (srt_perm zs).length_eq

/-- slices.Sort on a row of the call's own. -/
theorem sort_any (g c n : Nat) (zs : List Int) (w : World) (hl : zs.length = n) (hn : n ≤ 1024) (h : RowAt e32 21 w g c zs.toArray) :
    Calls Yba.prog 10 #[.slice (some ⟨g, 0, none⟩) n c] w fun e w' => e = .returned (.tuple #[]) ∧ RowAt e32 21 w' g c (srt zs).toArray ∧ Only (fun k => k = g) w w' := by
  subst hl
  refine (s32_slices_Sort g 0 c zs w h.holds h.lt (by omega)).mono ?_
  rintro e w' ⟨rfl, m, os, rfl⟩
  have hs : (srt zs).toArray.size = zs.toArray.size := by simp
  exact ⟨rfl, (h.put m (srt zs).toArray hs).only (only_grow _ _) (fun hf => hf), (only_putRow e32 w m g 0 (srt zs).toArray).step (only_grow _ _) (fun _ _ hf => hf.elim)⟩

/-- In the midst of the pops: k are done. -/
structure Popping (w : World) (S : List Int) (g c gw cw k : Nat) (d : Array Int) (wr : World) : Prop where
  hp : HP w.heap.size (w.heap.size + 1) g c d wr
  heap : IsHeap ltInt d.size d
  perm : d.toList.Perm (S.drop k)
  row : RowAt e32 21 wr gw cw S.toArray
  n1 : gw ≠ w.heap.size + 1
  n2 : gw ≠ g
  below : Below w.heap.size w wr

theorem popping_start {w wr w1 w2 : World} {zs : List Int} {g c gw cw : Nat} {d : Array Int} (h : Pushed w zs g c d wr) (hg : wr.heap.size ≤ gw) (hb : Below wr.heap.size wr w1)
    (hr : RowAt e32 21 w2 gw cw (srt zs).toArray) (ho : Only (fun k => k = gw) w1 w2) : Popping w (srt zs) g c gw cw 0 d w2 := by
  obtain ⟨h1, h2, h3, h4⟩ := h
  have l1 := h1.lt
  have l2 := h1.row.lt
  have h1' : HP w.heap.size (w.heap.size + 1) g c d w1 := h1.only (only_of_below hb) (fun hf => hf) (fun hf => hf)
  have b1 : Below w.heap.size w w1 := h4.trans (hb.mono h4.size)
  exact ⟨h1'.only ho (by omega) (by omega), h2, by simpa using h3.trans (srt_perm zs).symm, hr, by omega, by omega, below_only b1 ho b1.size (fun k hk => by have := h4.size; omega)⟩

theorem popping_step {w wr w' : World} {S : List Int} {g c gw cw k n : Nat} {d : Array Int} (h : Popping w S g c gw cw k d wr) (hd : d.size = n + 1) (hk : k < S.length) (hS : S.Pairwise (· ≤ ·))
    (h1 : HP w.heap.size (w.heap.size + 1) g c (heapDown ltInt n 0 (swp d 0 n)).pop w') (ho : Only (fun j => j = w.heap.size + 1 ∨ j = g) wr w') :
    (heapDown ltInt n 0 (swp d 0 n))[n]! = S.getD k 0 ∧ Popping w S g c gw cw (k + 1) (heapDown ltInt n 0 (swp d 0 n)).pop w' := by
  obtain ⟨r1, r2, _, _⟩ := heap_pop swo_ltInt d n hd h.heap
  have e : S.drop k = S.getD k 0 :: S.drop (k + 1) := by
    rw [List.drop_eq_getElem_cons hk]; simp [hk]
  have hpw : (S.getD k 0 :: S.drop (k + 1)).Pairwise (· ≤ ·) := by rw [← e]; exact hS.drop
  have hpm := h.perm
  rw [e] at hpm
  obtain ⟨v1, v2⟩ := pop_is_next d n hd h.heap _ _ hpw hpm
  have hsz : (heapDown ltInt n 0 (swp d 0 n)).pop.size = n := by simp [r1]
  refine ⟨v1, ⟨h1, by rw [hsz]; exact r2, v2, h.row.only ho (by have := h.n1; have := h.n2; omega), h.n1, h.n2, below_only h.below ho h.below.size (fun j hj => ?_)⟩⟩
  have := h.hp.hg
  rcases hj with rfl | rfl <;> omega

set_option maxRecDepth 100000 in
set_option maxHeartbeats 1600000 in
theorem walk_some (b off n cap : Nat) (zs : List Int) (w : World) (hn0 : 0 < n) (hn : n ≤ 1024) (hzl : zs.length = n) (hbw : b < w.heap.size)
    (hc : ∀ i, i < n → w.cell? ⟨b, off + i, none⟩ = some (.int .i32 (zs.getD i 0))) :
    Calls Yba.prog 4 #[.slice (some ⟨b, off, none⟩) n cap] w fun e w' => e = .returned (.bool true) ∧ Below w.heap.size w w' := by
  have hgt : ¬ (1024 : Int) < (n : Int) := by omega
  go_enter Yba.func4, Yba.ntmps4
  go_wp2_with fail
  go_loopw [17] (fun i wr => ∃ (k g c : Nat) (d : Array Int), i = .int .i64 k ∧ k ≤ n ∧ Pushed w (zs.take k) g c d wr) (fun i _ => n - (intOf i).toNat)
  case atStart => exact ⟨0, w.heap.size, 0, #[], rfl, Nat.zero_le _, hp_start w, fun i k hk hkn => absurd hkn (Nat.not_lt_zero _), List.Perm.refl _, below_start w⟩
  case round =>
    obtain ⟨k, g, c, d, rfl, hkn, hP⟩ := hrel
    have hds : d.size = k := by have := hP.2.2.1.length_eq; simp at this; omega
    by_cases hk : k < n
    · have i1 : (k : Int) < (n : Int) := by omega
      have hck : wr.cell? ⟨b, off + k, none⟩ = some (.int .i32 (zs.getD k 0)) := (hP.2.2.2.cell (p := ⟨b, off + k, none⟩) hbw).trans (hc k hk)
      have HS : Hid (∀ g' c' w', HP w.heap.size (w.heap.size + 1) g' c' (heapUp ltInt d.size d.size (d.push (zs.getD k 0))) w' → Only (fun j => j = w.heap.size + 1 ∨ j = g) wr w' → Pushed w (zs.take (k + 1)) g' c' (heapUp ltInt d.size d.size (d.push (zs.getD k 0))) w') :=
        fun g' c' w' h1 h2 => pushed_step hP (by omega) h1 h2
      generalize zs.getD k 0 = x at *
      have HD : Hid (d.size = k) := hds
      clear hds hc
      go_wp2_with fail
      refine (heapPush_any w.heap.size (w.heap.size + 1) g c d x wr hP.1 (by have := HD.out; omega)).mono ?_
      rintro e w1 ⟨rfl, g', c', h1, _, h2⟩
      go_wp2_with fail
      go_roundw
      case rel => exact ⟨k + 1, g', c', _, by go_num, by omega, HS.out g' c' w1 h1 h2⟩
      case measure => simp [intOf]; omega
    · obtain rfl : k = n := by omega
      have hP' : Pushed w zs g c d wr := by have e : zs.take k = zs := List.take_of_length_le (by omega); rw [e] at hP; exact hP
      have hck : ∀ j, j < k → wr.cell? ⟨b, off + j, none⟩ = some (.int .i32 (zs.getD j 0)) := fun j hj => (hP.2.2.2.cell (p := ⟨b, off + j, none⟩) hbw).trans (hc j hj)
      have HC : Hid (∀ j, j < k → wr.cell? ⟨b, off + j, none⟩ = some (.int .i32 (zs.getD j 0))) := hck
      have HL : Hid (zs.length = k) := hzl
      clear hP hck hc hds hzl
      go_wp2_with fail
      refine (clone_any b off k cap zs wr HL.out hn HC.out).mono ?_
      rintro e w1 ⟨gw, cw, rfl, hr1, hgw, hb1⟩
      go_wp2_with fail
      refine (sort_any gw cw k zs w1 HL.out hn hr1).mono ?_
      rintro e w2 ⟨rfl, hr2, ho2⟩
      have hpp := popping_start hP' hgw hb1 hr2 ho2
      clear hr1 hr2 ho2 hb1 hgw HC hP'
      have HSL : Hid ((srt zs).length = k) := by have := srt_length zs; have := HL.out; show _ = _; omega
      have HSP : Hid ((srt zs).Pairwise (· ≤ ·)) := srt_pairwise zs
      generalize srt zs = S at hpp HSL HSP
      clear HL
      go_wp2_with fail
      have hta : ∀ (z : Int) (w : World), (Instr.typeAssert (.iface 21 (.int .i32 z)) 20 21 true).run Yba.prog w = .ok (.tuple #[.int .i32 z, .bool true]) w := fun _ _ => by kernel_rfl
      go_loopw [7] (fun i wr2 => ∃ (j : Nat) (dj : Array Int), i = .int .i64 j ∧ j ≤ k ∧ Popping w S g c gw cw j dj wr2) (fun i _ => k - (intOf i).toNat)
      case atStart => exact ⟨0, d, rfl, Nat.zero_le _, hpp⟩
      case round =>
        obtain ⟨j, dj, rfl, hjk, hp⟩ := hrel
        have HD : Hid (dj.size = k - j) := by have := hp.perm.length_eq; have := HSL.out; simp at *; show _ = _; omega
        have hbx := cell_of_one hp.hp.box
        clear hpp
        by_cases hj : j < k
        · obtain ⟨m, hm⟩ : ∃ m, dj.size = m + 1 := ⟨dj.size - 1, by have := HD.out; omega⟩
          have i1 : (j : Int) < (k : Int) := by omega
          have i2 : (((m + 1 : Nat) : Int) == 0) = false := beq_eq_false_iff_ne.2 (by omega)
          rw [hm] at hbx
          have HM : Hid (dj.size = m + 1) := hm
          clear hm
          go_wp2_with fail
          refine (len_any _ _ _ _).mono ?_
          rintro e w3 ⟨rfl, rfl⟩
          go_wp2_with fail
          refine (heapPop_any w.heap.size (w.heap.size + 1) g c dj m HM.out w3 hp.hp (by have := HM.out; have := HD.out; omega)).mono ?_
          rintro e w4 ⟨rfl, hp4, ho4⟩
          obtain ⟨v1, v2⟩ := popping_step hp HM.out (by have := HSL.out; omega) HSP.out hp4 ho4
          have hcw : w4.cell? ⟨gw, j, none⟩ = some (.int .i32 (heapDown ltInt m 0 (swp dj 0 m))[m]!) := by
            have hjS : j < S.length := by have := HSL.out; omega
            rw [v1, (v2.row.cells j (by simpa using hjS)).1]
            simp [hjS]
          generalize (heapDown ltInt m 0 (swp dj 0 m))[m]! = v at hcw v1
          clear hp4 ho4 v1 hbx hp
          go_wp2_with fail
          go_roundw
          case rel => exact ⟨j + 1, _, by go_num, by omega, v2⟩
          case measure => simp [intOf]; omega
        · obtain rfl : j = k := by omega
          have h0 : dj.size = 0 := by have := HD.out; omega
          rw [h0] at hbx
          have HB : Hid (Below w.heap.size w wr) := hp.below
          clear h0 hp
          go_wp2_with fail
          refine (len_any _ _ _ _).mono ?_
          rintro e w3 ⟨rfl, rfl⟩
          go_wp2_with fail
          go_ret
          exact ⟨rfl, HB.out⟩

set_option maxRecDepth 100000 in
set_option maxHeartbeats 800000 in
theorem walk_none (p : Option Addr) (cap : Nat) (w : World) :
    Calls Yba.prog 4 #[.slice p 0 cap] w fun e w' => e = .returned (.bool true) ∧ Below w.heap.size w w' := by
  have hP := hp_start w
  have hB := below_start w
  go_enter Yba.func4, Yba.ntmps4
  go_wp2_with fail
  generalize (w.alloc (.cells #[] 21)).alloc (.cells #[.slice (some ⟨w.heap.size, 0, none⟩) 0 0] 23) = w0 at *
  refine wp_loop_rounds 1 ?_
  rw [rounds_succ]
  go_wp2_with fail
  refine (clone_none p cap w0).mono ?_
  rintro e w1 ⟨⟨q, c1, rfl⟩, hb1⟩
  go_wp2_with fail
  refine (s32_Sort_int_nil q c1 w1).mono ?_
  rintro e w2 ⟨rfl, rfl⟩
  have hP2 : HP w.heap.size (w.heap.size + 1) w.heap.size 0 #[] w2 := hP.only (only_of_below hb1) (fun hf => hf) (fun hf => hf)
  have hbx := cell_of_one hP2.box
  simp only [List.size_toArray, List.length_nil] at hbx
  have HB : Hid (Below w.heap.size w w2) := hB.trans (hb1.mono hB.size)
  clear hP hP2 hB hb1
  go_wp2_with fail
  refine wp_loop_rounds 1 ?_
  rw [rounds_succ]
  go_wp2_with fail
  refine (len_any _ _ _ _).mono ?_
  rintro e w3 ⟨rfl, rfl⟩
  go_wp2_with fail
  go_ret
  exact ⟨rfl, HB.out⟩
end Go.Proofs.Ybulkajny.lawS1766AHeapSort
