import Derived.Test.YbulkakawProg
import Derived.Test.YbulkakawMem
import Derived.WalkKit
import Derived.WalkSpells
import Derived.WalkLawsBesides
import Derived.Laws.Bits64b
import Derived.BigQuiet
namespace Go.Proofs.Ybulkakaw
open Go.RowKit

/-- The zero time plus d nanoseconds: its two numbers. -/
def tw (d : Int) : Int := d % 1000000000
def te (d : Int) : Int := d / 1000000000
def tval (d : Int) : Value := .agg #[.int .u64 (tw d), .int .i64 (te d), .pointer none]

theorem tw_bd (d : Int) : 0 ≤ tw d ∧ tw d < 1000000000 := by unfold tw; omega

theorem and_mono (x : Int) (h0 : 0 ≤ x) (h1 : x < 1000000000) : bits .and .u64 x 9223372036854775808 = 0 := by
  obtain ⟨n, rfl⟩ := Int.eq_ofNat_of_zero_le h0
  have h := bits_and_u64_nat n 9223372036854775808 (by omega) (by decide)
  have e : n &&& 9223372036854775808 = 0 := by
    have : (9223372036854775808 : Nat) = 2 ^ 63 := by decide
    have hb : n.testBit 63 = false := Nat.testBit_lt_two_pow (by omega)
    rw [this]
    apply Nat.eq_of_testBit_eq
    intro i
    rw [Nat.testBit_and, Nat.testBit_two_pow]
    by_cases hi : 63 = i
    · subst hi; simp [hb]
    · simp [hi]
  rw [e] at h
  simpa using h
theorem and_mono2 (x y : Int) (h0 : 0 ≤ x) (h1 : x < 1000000000) (h2 : 0 ≤ y) (h3 : y < 1000000000) : bits .and .u64 (bits .and .u64 x y) 9223372036854775808 = 0 := by
  obtain ⟨n, rfl⟩ := Int.eq_ofNat_of_zero_le h0
  obtain ⟨m, rfl⟩ := Int.eq_ofNat_of_zero_le h2
  have h := bits_and_u64_nat n m (by omega) (by omega)
  have hle : n &&& m ≤ n := Nat.and_le_left
  rw [h]
  exact and_mono _ (by omega) (by omega)
theorem and_mask (x : Int) (h0 : 0 ≤ x) (h1 : x < 1000000000) : bits .and .u64 x 1073741823 = x := by
  obtain ⟨n, rfl⟩ := Int.eq_ofNat_of_zero_le h0
  have h := bits_and_u64_nat n 1073741823 (by omega) (by decide)
  have e : n &&& 1073741823 = n := by
    have : (1073741823 : Nat) = 2 ^ 30 - 1 := by decide
    rw [this, Nat.and_two_pow_sub_one_eq_mod]
    have : (2 : Nat) ^ 30 = 1073741824 := by decide
    omega
  rw [e] at h
  simpa using h
theorem or_zero (x : Int) (h0 : 0 ≤ x) (h1 : x < 1000000000) : bits .or .u64 0 x = x := by
  obtain ⟨n, rfl⟩ := Int.eq_ofNat_of_zero_le h0
  have h := bits_or_u64_nat 0 n (by decide) (by omega)
  simpa using h

theorem nsec_any (b : Nat) (x : Int) (w : World) (hc : w.cell? ⟨b, 0, none⟩ = some (.int .u64 x)) (h0 : 0 ≤ x) (h1 : x < 1000000000) :
    Calls Yba.prog 15 #[.pointer (some ⟨b, 0, none⟩)] w fun e w' => e = .returned (.int .i32 x) ∧ w' = w := by
  have hm := and_mask x h0 h1
  go_enter Yba.func15, Yba.ntmps15
  go_wp2
  go_ret
  exact ⟨rfl, rfl⟩

theorem sec_any (b : Nat) (x y : Int) (w : World) (hc : w.cell? ⟨b, 0, none⟩ = some (.int .u64 x)) (hd : w.cell? ⟨b, 1, none⟩ = some (.int .i64 y)) (h0 : 0 ≤ x) (h1 : x < 1000000000) :
    Calls Yba.prog 14 #[.pointer (some ⟨b, 0, none⟩)] w fun e w' => e = .returned (.int .i64 y) ∧ w' = w := by
  have hm := and_mono x h0 h1
  go_enter Yba.func14, Yba.ntmps14
  go_wp2
  go_ret
  exact ⟨rfl, rfl⟩

theorem only_two (w : World) (o o' : Obj) : Only (fun _ => False) w ((w.alloc o).alloc o') := (only_alloc w o).trans (only_alloc _ o')

theorem isZero_any (d : Int) (w : World) : Calls Yba.prog 7 #[tval d] w fun e w' => e = .returned (.bool (d == 0)) ∧ Only (fun _ => False) w w' := by
  have hE : Hid ((d == 0) = ((tw d == 0) && (te d == 0))) := by
    show _ = _
    rw [Bool.eq_iff_iff]
    simp [tw, te]
    omega
  unfold tval
  generalize tw d = x at *
  generalize te d = y at *
  by_cases h : x = 0
  · have hx : (x == 0) = true := by simp [h]
    go_enter Yba.func7, Yba.ntmps7
    go_wp2
    go_ret
    refine ⟨?_, only_alloc w _⟩
    rw [hE.out, hx]; rfl
  · have hx : (x == 0) = false := by simp [h]
    go_enter Yba.func7, Yba.ntmps7
    go_wp2
    go_ret
    refine ⟨?_, only_alloc w _⟩
    rw [hE.out, hx]; rfl

theorem before_law (d d' : Int) : decide (d < d') = (decide (te d < te d') || ((te d == te d') && decide (tw d < tw d'))) := by
  unfold tw te
  rw [Bool.eq_iff_iff]
  simp only [Bool.or_eq_true, Bool.and_eq_true, decide_eq_true_eq, beq_iff_eq]
  omega
theorem equal_law (d d' : Int) : (d == d') = ((te d == te d') && (tw d == tw d')) := by
  unfold tw te
  rw [Bool.eq_iff_iff]
  simp only [Bool.and_eq_true, beq_iff_eq]
  omega

theorem cell_of_block {w : World} {b o : Nat} {cs : Array Value} {t : TypeId} {fr : Nat × Nat} {v : Value} (hb : w.heap[b]? = some (.cells cs t fr)) (hv : cs[o]? = some v) : w.cell? ⟨b, o, none⟩ = some v := by
  simp [World.cell?, hb, hv]
theorem free_of_block {w : World} {b o : Nat} {cs : Array Value} {t : TypeId} (hb : w.heap[b]? = some (.cells cs t (0, 0))) : w.frozen? ⟨b, o, none⟩ = false := by
  simp [World.frozen?, hb]
theorem two_boxes (w : World) (o o' : Obj) : ((w.alloc o).alloc o').heap[w.heap.size]? = some o ∧ ((w.alloc o).alloc o').heap[w.heap.size + 1]? = some o' := by
  constructor
  · rw [heap_alloc_old _ _ (by simp), heap_alloc_new]
  · have := heap_alloc_new (w.alloc o) o'
    simpa using this

theorem before_any (d d' : Int) (w : World) : Calls Yba.prog 9 #[tval d, tval d'] w fun e w' => e = .returned (.bool (decide (d < d'))) ∧ Only (fun _ => False) w w' := by
  obtain ⟨a0, a1⟩ := tw_bd d
  obtain ⟨b0, b1⟩ := tw_bd d'
  have hE : Hid (decide (d < d') = (decide (te d < te d') || ((te d == te d') && decide (tw d < tw d')))) := before_law d d'
  unfold tval
  generalize tw d = x at *
  generalize te d = y at *
  generalize tw d' = x' at *
  generalize te d' = y' at *
  have hm := and_mono2 x x' a0 a1 b0 b1
  obtain ⟨t1, t2⟩ := two_boxes w (.cells #[.int .u64 x, .int .i64 y, .pointer none] 37) (.cells #[.int .u64 x', .int .i64 y', .pointer none] 37)
  have c1 := cell_of_block (o := 0) t1 rfl
  have c2 := cell_of_block (o := 1) t1 rfl
  have c3 := cell_of_block (o := 0) t2 rfl
  have c4 := cell_of_block (o := 1) t2 rfl
  have o2 := only_two w (.cells #[.int .u64 x, .int .i64 y, .pointer none] 37) (.cells #[.int .u64 x', .int .i64 y', .pointer none] 37)
  go_enter Yba.func9, Yba.ntmps9
  go_wp2_with fail
  refine (sec_any _ x y _ c1 c2 a0 a1).mono ?_
  rintro e w1 ⟨rfl, hw1⟩
  rw [← hw1] at c1 c2 c3 c4 o2
  clear hw1 t1 t2 hm
  go_wp2_with fail
  refine (sec_any _ x' y' _ c3 c4 b0 b1).mono ?_
  rintro e w2 ⟨rfl, hw2⟩
  subst hw2
  by_cases h : y < y'
  · go_wp2_with fail
    go_ret
    refine ⟨?_, o2⟩
    rw [hE.out]
    simp [h]
  · have h1 : decide (y < y') = false := decide_eq_false h
    by_cases h2 : y = y'
    · have h3 : (y == y') = true := by simp [h2]
      go_wp2_with fail
      refine (nsec_any _ x _ c1 a0 a1).mono ?_
      rintro e w3 ⟨rfl, hw3⟩
      subst hw3
      go_wp2_with fail
      refine (nsec_any _ x' _ c3 b0 b1).mono ?_
      rintro e w4 ⟨rfl, hw4⟩
      subst hw4
      go_wp2_with fail
      go_ret
      refine ⟨?_, o2⟩
      rw [hE.out, h1, h3]; rfl
    · have h3 : (y == y') = false := by simp [h2]
      go_wp2_with fail
      go_ret
      refine ⟨?_, o2⟩
      rw [hE.out, h1, h3]; rfl
theorem after_any (d d' : Int) (w : World) : Calls Yba.prog 19 #[tval d, tval d'] w fun e w' => e = .returned (.bool (decide (d' < d))) ∧ Only (fun _ => False) w w' := by
  obtain ⟨a0, a1⟩ := tw_bd d
  obtain ⟨b0, b1⟩ := tw_bd d'
  have hE : Hid (decide (d' < d) = (decide (te d' < te d) || ((te d == te d') && decide (tw d' < tw d)))) := by
    show _ = _
    rw [before_law d' d, Bool.beq_comm (a := te d)]
  unfold tval
  generalize tw d = x at *
  generalize te d = y at *
  generalize tw d' = x' at *
  generalize te d' = y' at *
  have hm := and_mono2 x x' a0 a1 b0 b1
  obtain ⟨t1, t2⟩ := two_boxes w (.cells #[.int .u64 x, .int .i64 y, .pointer none] 37) (.cells #[.int .u64 x', .int .i64 y', .pointer none] 37)
  have c1 := cell_of_block (o := 0) t1 rfl
  have c2 := cell_of_block (o := 1) t1 rfl
  have c3 := cell_of_block (o := 0) t2 rfl
  have c4 := cell_of_block (o := 1) t2 rfl
  have o2 := only_two w (.cells #[.int .u64 x, .int .i64 y, .pointer none] 37) (.cells #[.int .u64 x', .int .i64 y', .pointer none] 37)
  go_enter Yba.func19, Yba.ntmps19
  go_wp2_with fail
  refine (sec_any _ x y _ c1 c2 a0 a1).mono ?_
  rintro e w1 ⟨rfl, hw1⟩
  rw [← hw1] at c1 c2 c3 c4 o2
  clear hw1 t1 t2 hm
  go_wp2_with fail
  refine (sec_any _ x' y' _ c3 c4 b0 b1).mono ?_
  rintro e w2 ⟨rfl, hw2⟩
  subst hw2
  by_cases h : y' < y
  · go_wp2_with fail
    go_ret
    refine ⟨?_, o2⟩
    rw [hE.out]
    simp [h]
  · have h1 : decide (y' < y) = false := decide_eq_false h
    by_cases h2 : y = y'
    · have h3 : (y == y') = true := by simp [h2]
      go_wp2_with fail
      refine (nsec_any _ x _ c1 a0 a1).mono ?_
      rintro e w3 ⟨rfl, hw3⟩
      subst hw3
      go_wp2_with fail
      refine (nsec_any _ x' _ c3 b0 b1).mono ?_
      rintro e w4 ⟨rfl, hw4⟩
      subst hw4
      go_wp2_with fail
      go_ret
      refine ⟨?_, o2⟩
      rw [hE.out, h1, h3]; rfl
    · have h3 : (y == y') = false := by simp [h2]
      go_wp2_with fail
      go_ret
      refine ⟨?_, o2⟩
      rw [hE.out, h1, h3]; rfl
theorem equal_any (d d' : Int) (w : World) : Calls Yba.prog 8 #[tval d, tval d'] w fun e w' => e = .returned (.bool (d == d')) ∧ Only (fun _ => False) w w' := by
  obtain ⟨a0, a1⟩ := tw_bd d
  obtain ⟨b0, b1⟩ := tw_bd d'
  have hE : Hid ((d == d') = ((te d == te d') && (tw d == tw d'))) := equal_law d d'
  unfold tval
  generalize tw d = x at *
  generalize te d = y at *
  generalize tw d' = x' at *
  generalize te d' = y' at *
  have hm := and_mono2 x x' a0 a1 b0 b1
  obtain ⟨t1, t2⟩ := two_boxes w (.cells #[.int .u64 x, .int .i64 y, .pointer none] 37) (.cells #[.int .u64 x', .int .i64 y', .pointer none] 37)
  have c1 := cell_of_block (o := 0) t1 rfl
  have c2 := cell_of_block (o := 1) t1 rfl
  have c3 := cell_of_block (o := 0) t2 rfl
  have c4 := cell_of_block (o := 1) t2 rfl
  have o2 := only_two w (.cells #[.int .u64 x, .int .i64 y, .pointer none] 37) (.cells #[.int .u64 x', .int .i64 y', .pointer none] 37)
  go_enter Yba.func8, Yba.ntmps8
  go_wp2_with fail
  refine (sec_any _ x y _ c1 c2 a0 a1).mono ?_
  rintro e w1 ⟨rfl, hw1⟩
  rw [← hw1] at c1 c2 c3 c4 o2
  clear hw1 t1 t2 hm
  go_wp2_with fail
  refine (sec_any _ x' y' _ c3 c4 b0 b1).mono ?_
  rintro e w2 ⟨rfl, hw2⟩
  subst hw2
  by_cases h2 : y = y'
  · have h3 : (y == y') = true := by simp [h2]
    go_wp2_with fail
    refine (nsec_any _ x _ c1 a0 a1).mono ?_
    rintro e w3 ⟨rfl, hw3⟩
    subst hw3
    go_wp2_with fail
    refine (nsec_any _ x' _ c3 b0 b1).mono ?_
    rintro e w4 ⟨rfl, hw4⟩
    subst hw4
    go_wp2_with fail
    go_ret
    refine ⟨?_, o2⟩
    rw [hE.out, h3]; rfl
  · have h3 : (y == y') = false := by simp [h2]
    go_wp2_with fail
    go_ret
    refine ⟨?_, o2⟩
    rw [hE.out, h3]; rfl

theorem addSec_any (b : Nat) (x s : Int) (w : World) (hc : w.cell? ⟨b, 0, none⟩ = some (.int .u64 x)) (hd : w.cell? ⟨b, 1, none⟩ = some (.int .i64 0)) (hf : w.frozen? ⟨b, 1, none⟩ = false) (h0 : 0 ≤ x) (h1 : x < 1000000000) (hs0 : -20 < s) (hs1 : s < 20) :
    Calls Yba.prog 17 #[.pointer (some ⟨b, 0, none⟩), .int .i64 s] w fun e w' => e = .returned (.tuple #[]) ∧ w' = w.setCell ⟨b, 1, none⟩ (.int .i64 s) := by
  have hm := and_mono x h0 h1
  by_cases hs : 0 < s
  · go_enter Yba.func17, Yba.ntmps17
    go_wp2
    go_end0
    exact ⟨rfl, rfl⟩
  · have hs' : decide (0 < s) = false := decide_eq_false hs
    go_enter Yba.func17, Yba.ntmps17
    go_wp2
    go_end0
    exact ⟨rfl, rfl⟩
theorem andNot_zero : bits .andNot .u64 0 1073741823 = 0 := by decide

theorem set_block {w : World} {b o : Nat} {cs cs' : Array Value} {t : TypeId} {v : Value} (hb : w.heap[b]? = some (.cells cs t (0, 0))) (hc : cs' = cs.setIfInBounds o v) : (w.setCell ⟨b, o, none⟩ v).heap[b]? = some (.cells cs' t (0, 0)) := by
  have hlt := (Array.getElem?_eq_some_iff.1 hb).1
  have h' : w.heap[b] = .cells cs t (0, 0) := by simpa [Array.getElem?_eq_getElem hlt] using hb
  show (w.heap.modify b _)[b]? = _
  rw [Array.getElem?_eq_getElem (by simpa using hlt), Array.getElem_modify_self, h', hc]
  rfl
theorem set_other {w : World} {b k o : Nat} {v : Value} (h : k ≠ b) : (w.setCell ⟨b, o, none⟩ v).heap[k]? = w.heap[k]? := Below.heap_setCell _ _ _ _ h

theorem tdiv_law (d : Int) (h0 : -2147483648 ≤ d) (h1 : d ≤ 2147483647) : -10 < d.tdiv 1000000000 ∧ d.tdiv 1000000000 < 10 ∧ -1000000000 < d.tmod 1000000000 ∧ d.tmod 1000000000 < 1000000000 ∧
    (if d.tmod 1000000000 < 0 then te d = d.tdiv 1000000000 - 1 ∧ tw d = d.tmod 1000000000 + 1000000000 else te d = d.tdiv 1000000000 ∧ tw d = d.tmod 1000000000) := by
  unfold te tw
  by_cases h : 0 ≤ d
  · rw [Int.tdiv_eq_ediv_of_nonneg h, Int.tmod_eq_emod_of_nonneg h, if_neg (by omega)]
    omega
  · obtain ⟨m, rfl⟩ : ∃ m, d = -m := ⟨-d, by omega⟩
    rw [Int.neg_tdiv, Int.neg_tmod, Int.tdiv_eq_ediv_of_nonneg (by omega), Int.tmod_eq_emod_of_nonneg (by omega)]
    split <;> omega

theorem add_any (d : Int) (w : World) (h0 : -2147483648 ≤ d) (h1 : d ≤ 2147483647) :
    Calls Yba.prog 11 #[.agg #[.int .u64 0, .int .i64 0, .pointer none], .int .i64 d] w fun e w' => e = .returned (tval d) ∧ Only (fun _ => False) w w' := by
  obtain ⟨q0, q1, r0, r1, hT0⟩ := tdiv_law d h0 h1
  have hT : Hid (if d.tmod 1000000000 < 0 then te d = d.tdiv 1000000000 - 1 ∧ tw d = d.tmod 1000000000 + 1000000000 else te d = d.tdiv 1000000000 ∧ tw d = d.tmod 1000000000) := hT0
  clear hT0
  obtain ⟨q, hq⟩ : ∃ q, d.tdiv 1000000000 = q := ⟨_, rfl⟩
  obtain ⟨r, hr⟩ : ∃ r, d.tmod 1000000000 = r := ⟨_, rfl⟩
  rw [hq, hr] at hT
  rw [hq] at q0 q1
  rw [hr] at r0 r1
  have hz := andNot_zero
  obtain ⟨t1, t2⟩ := two_boxes w (.cells #[.int .u64 0, .int .i64 0, .pointer none] 37) (.cells #[.int .u64 0, .int .i64 0, .pointer none] 37)
  have c1 := cell_of_block (o := 0) t1 rfl
  have o2 := only_two w (.cells #[.int .u64 0, .int .i64 0, .pointer none] 37) (.cells #[.int .u64 0, .int .i64 0, .pointer none] 37)
  go_enter Yba.func11, Yba.ntmps11
  go_wp2_with fail
  refine (nsec_any _ 0 _ c1 (by omega) (by omega)).mono ?_
  rintro e w1 ⟨rfl, hw1⟩
  rw [← hw1] at t1 t2 o2
  clear hw1 c1
  have T1 : Hid (w1.heap[w.heap.size]? = some (.cells #[.int .u64 0, .int .i64 0, .pointer none] 37 (0, 0))) := t1
  have T2 : Hid (w1.heap[w.heap.size + 1]? = some (.cells #[.int .u64 0, .int .i64 0, .pointer none] 37 (0, 0))) := t2
  have O2 : Hid (Only (fun _ => False) w w1) := o2
  have d0 : w1.cell? ⟨w.heap.size, 0, none⟩ = some (.int .u64 0) := cell_of_block t1 rfl
  have f0 := free_of_block (o := 0) t1
  clear t1 t2 o2
  by_cases hneg : r < 0
  · obtain ⟨X, hX⟩ : ∃ X, r + 1000000000 = X := ⟨_, rfl⟩
    obtain ⟨Y, hY⟩ : ∃ Y, q - 1 = Y := ⟨_, rfl⟩
    have x0 : 0 ≤ X := by omega
    have x1 : X < 1000000000 := by omega
    have y0 : -12 < Y := by omega
    have y1 : Y < 12 := by omega
    have E : Hid (te d = Y ∧ tw d = X) := by have := hT.out; rw [if_pos hneg] at this; rw [← hX, ← hY]; exact this
    have hor := or_zero X x0 x1
    go_wp2_with fail
    have u1 := set_block (o := 0) (v := .int .u64 X) T1.out rfl
    have u2 := (set_other (w := w1) (b := w.heap.size) (k := w.heap.size + 1) (o := 0) (v := .int .u64 X) (by omega)).trans T2.out
    have v1 : (w1.setCell ⟨w.heap.size, 0, none⟩ (.int .u64 X)).cell? ⟨w.heap.size, 0, none⟩ = some (.int .u64 X) := cell_of_block u1 rfl
    have v2 : (w1.setCell ⟨w.heap.size, 0, none⟩ (.int .u64 X)).cell? ⟨w.heap.size, 1, none⟩ = some (.int .i64 0) := cell_of_block u1 rfl
    refine (addSec_any _ X Y _ v1 v2 (free_of_block u1) x0 x1 (by omega) (by omega)).mono ?_
    rintro e w2 ⟨rfl, hw2⟩
    have z1 := set_block (o := 1) (v := .int .i64 Y) u1 rfl
    have z2 := (set_other (w := w1.setCell ⟨w.heap.size, 0, none⟩ (.int .u64 X)) (b := w.heap.size) (k := w.heap.size + 1) (o := 1) (v := .int .i64 Y) (by omega)).trans u2
    rw [← hw2] at z1 z2
    have o3 : Only (fun _ => False) w w2 := by
      rw [hw2]
      exact (O2.out.step (only_setCell w1 _ _) (fun i hi he => by simp at he; omega)).step (only_setCell _ _ _) (fun i hi he => by simp at he; omega)
    clear hw2 v1 v2 u1 u2
    have O3 : Hid (Only (fun _ => False) w w2) := o3
    have k0 : w2.cell? ⟨w.heap.size, 0, none⟩ = some (.int .u64 X) := cell_of_block z1 rfl
    have k1 : w2.cell? ⟨w.heap.size, 1, none⟩ = some (.int .i64 Y) := cell_of_block z1 rfl
    have k2 : w2.cell? ⟨w.heap.size, 2, none⟩ = some (.pointer none) := cell_of_block z1 rfl
    have n0 : w2.cell? ⟨w.heap.size + 1, 0, none⟩ = some (.int .u64 0) := cell_of_block z2 rfl
    have n1 : w2.cell? ⟨w.heap.size + 1, 1, none⟩ = some (.int .i64 0) := cell_of_block z2 rfl
    have n2 : w2.cell? ⟨w.heap.size + 1, 2, none⟩ = some (.pointer none) := cell_of_block z2 rfl
    have m0 := free_of_block (o := 0) z2
    have m1 := free_of_block (o := 1) z2
    have m2 := free_of_block (o := 2) z2
    have hm := and_mono X x0 x1
    have g1 := set_block (o := 0) (v := .int .u64 X) z2 rfl
    have g2 := set_block (o := 1) (v := .int .i64 Y) g1 rfl
    have g3 := set_block (o := 2) (v := .pointer none) g2 rfl
    have G1 : Hid _ := cell_of_block (o := 0) g1 rfl
    have G2 : Hid _ := cell_of_block (o := 1) g2 rfl
    have G3 : Hid _ := cell_of_block (o := 2) g3 rfl
    clear z1 z2 o3 g1 g2 g3
    go_wp2_with fail
    obtain ⟨E1, E2⟩ := E.out
    refine bodyPost_ret (v := .agg #[.int .u64 X, .int .i64 Y, .pointer none]) (by simp [results, Yba.results11, go_sem, G1.out, G2.out, G3.out]) rfl ?_
    refine ⟨by rw [tval, E1, E2], ?_⟩
    exact ((O3.out.step (only_setCell _ _ _) (fun i hi he => by simp at he; omega)).step (only_setCell _ _ _) (fun i hi he => by simp at he; omega)).step (only_setCell _ _ _) (fun i hi he => by simp at he; omega)
  · obtain ⟨X, hX⟩ : ∃ X, r = X := ⟨_, rfl⟩
    obtain ⟨Y, hY⟩ : ∃ Y, q = Y := ⟨_, rfl⟩
    have x0 : 0 ≤ X := by omega
    have x1 : X < 1000000000 := by omega
    have y0 : -12 < Y := by omega
    have y1 : Y < 12 := by omega
    have E : Hid (te d = Y ∧ tw d = X) := by have := hT.out; rw [if_neg hneg] at this; rw [← hX, ← hY]; exact this
    have hor := or_zero X x0 x1
    go_wp2_with fail
    have u1 := set_block (o := 0) (v := .int .u64 X) T1.out rfl
    have u2 := (set_other (w := w1) (b := w.heap.size) (k := w.heap.size + 1) (o := 0) (v := .int .u64 X) (by omega)).trans T2.out
    have v1 : (w1.setCell ⟨w.heap.size, 0, none⟩ (.int .u64 X)).cell? ⟨w.heap.size, 0, none⟩ = some (.int .u64 X) := cell_of_block u1 rfl
    have v2 : (w1.setCell ⟨w.heap.size, 0, none⟩ (.int .u64 X)).cell? ⟨w.heap.size, 1, none⟩ = some (.int .i64 0) := cell_of_block u1 rfl
    refine (addSec_any _ X Y _ v1 v2 (free_of_block u1) x0 x1 (by omega) (by omega)).mono ?_
    rintro e w2 ⟨rfl, hw2⟩
    have z1 := set_block (o := 1) (v := .int .i64 Y) u1 rfl
    have z2 := (set_other (w := w1.setCell ⟨w.heap.size, 0, none⟩ (.int .u64 X)) (b := w.heap.size) (k := w.heap.size + 1) (o := 1) (v := .int .i64 Y) (by omega)).trans u2
    rw [← hw2] at z1 z2
    have o3 : Only (fun _ => False) w w2 := by
      rw [hw2]
      exact (O2.out.step (only_setCell w1 _ _) (fun i hi he => by simp at he; omega)).step (only_setCell _ _ _) (fun i hi he => by simp at he; omega)
    clear hw2 v1 v2 u1 u2
    have O3 : Hid (Only (fun _ => False) w w2) := o3
    have k0 : w2.cell? ⟨w.heap.size, 0, none⟩ = some (.int .u64 X) := cell_of_block z1 rfl
    have k1 : w2.cell? ⟨w.heap.size, 1, none⟩ = some (.int .i64 Y) := cell_of_block z1 rfl
    have k2 : w2.cell? ⟨w.heap.size, 2, none⟩ = some (.pointer none) := cell_of_block z1 rfl
    have n0 : w2.cell? ⟨w.heap.size + 1, 0, none⟩ = some (.int .u64 0) := cell_of_block z2 rfl
    have n1 : w2.cell? ⟨w.heap.size + 1, 1, none⟩ = some (.int .i64 0) := cell_of_block z2 rfl
    have n2 : w2.cell? ⟨w.heap.size + 1, 2, none⟩ = some (.pointer none) := cell_of_block z2 rfl
    have m0 := free_of_block (o := 0) z2
    have m1 := free_of_block (o := 1) z2
    have m2 := free_of_block (o := 2) z2
    have hm := and_mono X x0 x1
    have g1 := set_block (o := 0) (v := .int .u64 X) z2 rfl
    have g2 := set_block (o := 1) (v := .int .i64 Y) g1 rfl
    have g3 := set_block (o := 2) (v := .pointer none) g2 rfl
    have G1 : Hid _ := cell_of_block (o := 0) g1 rfl
    have G2 : Hid _ := cell_of_block (o := 1) g2 rfl
    have G3 : Hid _ := cell_of_block (o := 2) g3 rfl
    clear z1 z2 o3 g1 g2 g3
    go_wp2_with fail
    obtain ⟨E1, E2⟩ := E.out
    refine bodyPost_ret (v := .agg #[.int .u64 X, .int .i64 Y, .pointer none]) (by simp [results, Yba.results11, go_sem, G1.out, G2.out, G3.out]) rfl ?_
    refine ⟨by rw [tval, E1, E2], ?_⟩
    exact ((O3.out.step (only_setCell _ _ _) (fun i hi he => by simp at he; omega)).step (only_setCell _ _ _) (fun i hi he => by simp at he; omega)).step (only_setCell _ _ _) (fun i hi he => by simp at he; omega)

theorem at_any (d : Int) (w : World) (h0 : -2147483648 ≤ d) (h1 : d ≤ 2147483647) :
    Calls Yba.prog 5 #[.int .i32 d] w fun e w' => e = .returned (tval d) ∧ Only (fun _ => False) w w' := by
  have t1 := heap_alloc_new w (.cells #[.int .u64 0, .int .i64 0, .pointer none] 37)
  have o1 := only_alloc w (.cells #[.int .u64 0, .int .i64 0, .pointer none] 37)
  go_enter Yba.func5, Yba.ntmps5
  go_wp2_with fail
  refine (add_any d _ h0 h1).mono ?_
  rintro e w1 ⟨rfl, o2⟩
  have z2 := o2.at_block t1 (fun h => h)
  have O3 : Hid (Only (fun _ => False) w w1) := o1.trans o2
  have n0 : w1.cell? ⟨w.heap.size, 0, none⟩ = some (.int .u64 0) := cell_of_block z2 rfl
  have n1 : w1.cell? ⟨w.heap.size, 1, none⟩ = some (.int .i64 0) := cell_of_block z2 rfl
  have n2 : w1.cell? ⟨w.heap.size, 2, none⟩ = some (.pointer none) := cell_of_block z2 rfl
  have m0 := free_of_block (o := 0) z2
  have m1 := free_of_block (o := 1) z2
  have m2 := free_of_block (o := 2) z2
  have g1 := set_block (o := 0) (v := .int .u64 (tw d)) z2 rfl
  have g2 := set_block (o := 1) (v := .int .i64 (te d)) g1 rfl
  have g3 := set_block (o := 2) (v := .pointer none) g2 rfl
  have G1 : Hid _ := cell_of_block (o := 0) g1 rfl
  have G2 : Hid _ := cell_of_block (o := 1) g2 rfl
  have G3 : Hid _ := cell_of_block (o := 2) g3 rfl
  clear t1 o1 o2 z2 g1 g2 g3
  unfold tval
  go_wp2_with fail
  refine bodyPost_ret (v := .agg #[.int .u64 (tw d), .int .i64 (te d), .pointer none]) (by simp [results, Yba.results5, go_sem, G1.out, G2.out, G3.out]) rfl ?_
  refine ⟨rfl, ?_⟩
  exact ((O3.out.step (only_setCell _ _ _) (fun i hi he => by simp at he; omega)).step (only_setCell _ _ _) (fun i hi he => by simp at he; omega)).step (only_setCell _ _ _) (fun i hi he => by simp at he; omega)
end Go.Proofs.Ybulkakaw
