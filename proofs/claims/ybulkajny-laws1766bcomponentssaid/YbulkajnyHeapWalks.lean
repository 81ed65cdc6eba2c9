import Derived.Test.YbulkajnyPop
import Derived.Test.YbulkajnyHeapLaw
import Derived.Sort.WalkB2
import Derived.Sort.WalkA
import Derived.WalkLawsBesides
import Derived.WalkSpells
import Derived.BigQuiet
import Derived.Deep.QuietTactic
import Derived.RegionTactic
import Derived.BigRegion
import Derived.CellFam
import Derived.Deep.LoopGhost
namespace Go.Proofs.Ybulkajny
open Go.RowKit Go.Sort
theorem wrapNilChk_ok (ts : Array TypeId) (t : TypeId) (a : Addr) (x y : ByteArray) : Builtin.ssaWrapNilChk_ ts t #[.pointer (some a), .string x, .string y] = pure (.pointer (some a)) := rfl
/-- A value method, come to through a pointer in an interface value: the receiver is what the pointer's cell holds. -/
theorem run_method_ptr {P : Program} (fuel : Nat) (t e : TypeId) (name : String) (f : FuncId) (h : ((P.info? t).bind (fun i => i.methods.find? (·.name == name))).map (fun m => (m.path.toList, m.func)) = some ([], some (f, false)))
    (hu : P.underlying t = some (.pointer e)) (ha : ∀ w, (isAgg e).run P w = .ok false w) (a : Addr) (v : Value) (w : World) (hc : w.cell? a = some v) :
    (method (fuel + 1) t (.pointer (some a)) name).run P w = .ok (f, v) w := by
  obtain ⟨m, hm, hf⟩ := Option.map_eq_some_iff.1 h
  obtain ⟨i, hi, hm⟩ := Option.bind_eq_some_iff.1 hm
  simp only [Prod.mk.injEq] at hf
  obtain ⟨h1, h2⟩ := hf
  have hp : m.path = #[] := by cases hq : m.path; simp_all
  unfold method
  simp [typeInfo, hi, hm, h2, follow, receiverAt, hp, Place.get, wrapNilChk_ok, run_underlying hu, asAddr, loadVar, ha, hc, run_load, strVal]
theorem method_len (a : Addr) (v : Value) (w : World) (hc : w.cell? a = some v) : (method 221 27 (.pointer (some a)) "Len").run Yba.prog w = .ok (11, v) w :=
  run_method_ptr 220 27 23 "Len" 11 (by kernel_rfl) Yba.underlying27 Yba.isAgg23 a v w hc
theorem method_less (a : Addr) (v : Value) (w : World) (hc : w.cell? a = some v) : (method 221 27 (.pointer (some a)) "Less").run Yba.prog w = .ok (64, v) w :=
  run_method_ptr 220 27 23 "Less" 64 (by kernel_rfl) Yba.underlying27 Yba.isAgg23 a v w hc
theorem method_swap (a : Addr) (v : Value) (w : World) (hc : w.cell? a = some v) : (method 221 27 (.pointer (some a)) "Swap").run Yba.prog w = .ok (65, v) w :=
  run_method_ptr 220 27 23 "Swap" 65 (by kernel_rfl) Yba.underlying27 Yba.isAgg23 a v w hc
theorem method_push (a : Addr) (w : World) : (method 221 27 (.pointer (some a)) "Push").run Yba.prog w = .ok (66, .pointer (some a)) w := by kernel_rfl
theorem method_pop (a : Addr) (w : World) : (method 221 27 (.pointer (some a)) "Pop").run Yba.prog w = .ok (7, .pointer (some a)) w := by kernel_rfl

abbrev e32 : Int → Value := Value.int .i32

theorem len_any (p : Option Addr) (n c : Nat) (w : World) : Calls Yba.prog 11 #[.slice p n c] w fun e w' => e = .returned (.int .i64 n) ∧ w' = w := by
  go_enter Yba.func11, Yba.ntmps11
  go_wp2
  go_ret
  exact ⟨rfl, rfl⟩

theorem less_any (g c : Nat) (d : Array Int) (len : Nat) (hlen : d.size = len) (i j : Nat) (I J : Int) (hI : I = (i : Int)) (hJ : J = (j : Int)) (w : World) (hH : Holds e32 w g 0 d) (hi : i < d.size) (hj : j < d.size) :
    Calls Yba.prog 64 #[.slice (some ⟨g, 0, none⟩) len c, .int .i64 I, .int .i64 J] w fun e w' => e = .returned (.bool (ltInt d[i]! d[j]!)) ∧ ∃ q, w' = w.drewN q := by
  subst hlen hI hJ
  have c1 := (hH i hi).1
  have c2 := (hH j hj).1
  rw [Nat.zero_add] at c1 c2
  generalize d[i]! = x at *
  generalize d[j]! = y at *
  generalize d.size = n at *
  clear hH
  have i1 : (i : Int) < (n : Int) := by omega
  have i2 : (j : Int) < (n : Int) := by omega
  go_enter Yba.func64, Yba.ntmps64
  go_wp2
  go_quiet (fail)
  go_wp2
  go_ret
  exact ⟨rfl, _, rfl⟩

theorem swap_any (g c : Nat) (d : Array Int) (len : Nat) (hlen : d.size = len) (i j : Nat) (I J : Int) (hI : I = (i : Int)) (hJ : J = (j : Int)) (w : World) (hH : Holds e32 w g 0 d) (hi : i < d.size) (hj : j < d.size) :
    Calls Yba.prog 65 #[.slice (some ⟨g, 0, none⟩) len c, .int .i64 I, .int .i64 J] w fun e w' => e = .returned (.tuple #[]) ∧ ∃ n, w' = putRow e32 (Sort.ahead w n) g 0 (swp d i j) := by
  subst hlen hI hJ
  have HH : Hid (Holds e32 w g 0 d) := hH
  have c1 := (hH i hi).1
  have c2 := (hH j hj).1
  have f1 := (hH i hi).2
  have f2 := (hH j hj).2
  rw [Nat.zero_add] at c1 c2 f1 f2
  have HW : Hid (∀ m, (((w.drewN m).setCell ⟨g, i, none⟩ (e32 d[j]!)).setCell ⟨g, j, none⟩ (e32 d[i]!)) = putRow e32 (Sort.ahead w m) g 0 (swp d i j)) := by
    intro m
    have e := putRow_swp e32 (Sort.ahead w m) g 0 d i j hi hj
    rw [putRow_self e32 (Sort.ahead w m) g 0 d (holds_ahead e32 w m g 0 d hH), Nat.zero_add, Nat.zero_add] at e
    exact e
  clear hH HH
  generalize d[i]! = x at *
  generalize d[j]! = y at *
  generalize d.size = n at *
  have i1 : (i : Int) < (n : Int) := by omega
  have i2 : (j : Int) < (n : Int) := by omega
  by_cases hij : i = j
  · subst hij
    obtain rfl : x = y := by rw [c1] at c2; simpa using c2
    go_enter Yba.func65, Yba.ntmps65
    go_wp2
    go_region
    all_goals (go_end0; exact ⟨rfl, 1, HW.out 1⟩)
  · go_enter Yba.func65, Yba.ntmps65
    go_wp2
    go_region
    all_goals (go_end0; exact ⟨rfl, 1, HW.out 1⟩)

/-- The box at B holds the slice over block g, which holds d. -/
structure Hp (B g c : Nat) (d : Array Int) (w : World) : Prop where
  box : w.cell? ⟨B, 0, none⟩ = some (.slice (some ⟨g, 0, none⟩) d.size c)
  row : Holds e32 w g 0 d
  ne : B ≠ g

theorem Hp.put {B g c : Nat} {d : Array Int} {w : World} (h : Hp B g c d w) (n : Nat) (d' : Array Int) (hs : d'.size = d.size) : Hp B g c d' (putRow e32 (Sort.ahead w n) g 0 d') :=
  ⟨by rw [cell?_putRow_other _ _ _ _ _ _ (Or.inl h.ne), hs]; exact h.box, holds_putRow e32 _ g 0 d d' (holds_ahead e32 w n g 0 d h.row) hs, h.ne⟩

theorem Hp.drewN {B g c : Nat} {d : Array Int} {w : World} (h : Hp B g c d w) (n : Nat) : Hp B g c d (w.drewN n) := ⟨h.box, h.row, h.ne⟩

theorem half_int (j : Nat) (h : 0 < j) : ((j : Int) - 1).tdiv 2 = (((j - 1) / 2 : Nat) : Int) := by
  rw [Int.tdiv_eq_ediv_of_nonneg (by omega)]; omega

set_option maxRecDepth 100000 in
set_option maxHeartbeats 800000 in
theorem up_any (B g c : Nat) (d : Array Int) (j : Nat) (w : World) (h : Hp B g c d w) (hj : j < d.size) (hsz : d.size < 4611686018427387904) :
    Calls Yba.prog 20 #[.iface 27 (.pointer (some ⟨B, 0, none⟩)), .int .i64 j] w fun e w' => e = .returned (.tuple #[]) ∧ ∃ n, w' = putRow e32 (Sort.ahead w n) g 0 (heapUp ltInt j j d) := by
  go_enter Yba.func20, Yba.ntmps20
  go_wp2_with fail
  go_loopg [1] j (fun k s1 wr => ∃ (i n : Nat) (dk : Array Int), s1 = .int .i64 i ∧ i ≤ k ∧ k ≤ j ∧ dk.size = d.size ∧ wr = putRow e32 (Sort.ahead w n) g 0 dk ∧ heapUp ltInt j i dk = heapUp ltInt j j d)
  case atStart => exact ⟨j, 0, d, rfl, Nat.le_refl _, Nat.le_refl _, rfl, (putRow_self e32 w g 0 d h.row).symm, rfl⟩
  case round =>
    obtain ⟨i, n, dk, rfl, hik, hkj, hds, hwr, heq⟩ := hrel
    have hk : Hp B g c dk wr := by rw [hwr]; exact h.put n dk hds
    have A : Aside (wr = putRow e32 (Sort.ahead w n) g 0 dk) := hwr
    have HE : Hid (heapUp ltInt j i dk = heapUp ltInt j j d) := heq
    clear hwr heq
    by_cases h0 : i = 0
    · subst h0
      go_wp2_with fail
      go_end0
      refine ⟨rfl, n, ?_⟩
      rw [A.out, ← HE.out, heapUp_stop _ _ _ _ (.inl rfl)]
    · have hh := half_int i (by omega)
      generalize hp : (i - 1) / 2 = p at hh
      have HP : Hid ((i - 1) / 2 = p) := hp
      have hpi : p < i := by omega
      clear hp
      have hne : ((p : Int) == (i : Int)) = false := beq_eq_false_iff_ne.2 (by omega)
      have hm := method_less ⟨B, 0, none⟩ _ wr hk.box
      go_wp2_with fail
      refine (less_any g c dk _ hds i p _ _ rfl rfl wr hk.row (by omega) (by omega)).mono ?_
      rintro e w1 ⟨rfl, q, hw1⟩
      have hk1 : Hp B g c dk w1 := by rw [hw1]; exact hk.drewN q
      have hms := method_swap ⟨B, 0, none⟩ _ w1 hk1.box
      have HW : Hid (w1 = wr.drewN q) := hw1
      clear hm hw1
      cases hl : ltInt dk[i]! dk[p]! with
      | false =>
        go_wp2_with fail
        go_end0
        refine ⟨rfl, n + q, ?_⟩
        rw [HW.out, A.out, putRow_drewN, ← HE.out, heapUp_stop _ _ _ _ (.inr (by rw [HP.out]; exact hl))]
      | true =>
        go_wp2_with fail
        refine (swap_any g c dk _ hds p i _ _ rfl rfl w1 hk1.row (by omega) (by omega)).mono ?_
        rintro e w2 ⟨rfl, m, hw2⟩
        have HW2 : Hid (w2 = putRow e32 (Sort.ahead w1 m) g 0 (swp dk p i)) := hw2
        clear hw2
        go_wp2_with fail
        go_roundg p
        case measure => omega
        case rel =>
          refine ⟨p, n + (q + m), swp dk p i, rfl, Nat.le_refl _, by omega, by rw [size_swp]; exact hds, ?_, ?_⟩
          · rw [HW2.out, HW.out, A.out, putRow_drewN, putRow_ahead_putRow _ _ _ _ _ _ _ _ (size_swp _ _ _), Nat.add_assoc]
          · rw [← HE.out]
            have e := heapUp_go ltInt j i dk h0 (by rw [HP.out]; exact hl)
            rw [HP.out] at e
            rw [heapUp_fuel ltInt j (j + 1) i dk (by omega) (by omega), e]

section
variable {α : Type} [Inhabited α] (lt : α → α → Bool)
theorem hd_end {n r : Nat} (d : Array α) (h : n ≤ 2 * r + 1) : heapDown lt n r d = d := sd_end (revLt lt) d h
theorem hd_right_stop {n r : Nat} (d : Array α) (h1 : 2 * r + 2 < n) (h2 : lt d[2 * r + 2]! d[2 * r + 1]! = true) (h3 : lt d[2 * r + 2]! d[r]! = false) : heapDown lt n r d = d :=
  sd_right_stop (revLt lt) d h1 (by simpa [revLt] using h2) (by simpa [revLt] using h3)
theorem hd_right_go {n r : Nat} (d : Array α) (h1 : 2 * r + 2 < n) (h2 : lt d[2 * r + 2]! d[2 * r + 1]! = true) (h3 : lt d[2 * r + 2]! d[r]! = true) : heapDown lt n r d = heapDown lt n (2 * r + 2) (swp d r (2 * r + 2)) := by
  have := sd_right_go (revLt lt) (F := 0) d h1 (by simpa [revLt] using h2) (by simpa [revLt] using h3)
  simpa [heapDown] using this
theorem hd_left_stop {n r : Nat} (d : Array α) (h0 : 2 * r + 1 < n) (h1 : 2 * r + 2 < n → lt d[2 * r + 2]! d[2 * r + 1]! = false) (h3 : lt d[2 * r + 1]! d[r]! = false) : heapDown lt n r d = d :=
  sd_left_stop (revLt lt) d h0 (by simpa [revLt] using h1) (by simpa [revLt] using h3)
theorem hd_left_go {n r : Nat} (d : Array α) (h0 : 2 * r + 1 < n) (h1 : 2 * r + 2 < n → lt d[2 * r + 2]! d[2 * r + 1]! = false) (h3 : lt d[2 * r + 1]! d[r]! = true) : heapDown lt n r d = heapDown lt n (2 * r + 1) (swp d r (2 * r + 1)) := by
  have := sd_left_go (revLt lt) (F := 0) d h0 (by simpa [revLt] using h1) (by simpa [revLt] using h3)
  simpa [heapDown] using this
end

set_option maxRecDepth 100000 in
set_option maxHeartbeats 1600000 in
theorem down_any (B g c : Nat) (d : Array Int) (r0 n : Nat) (w : World) (h : Hp B g c d w) (hr0 : r0 ≤ n) (hn : n ≤ d.size) (hsz : d.size < 4611686018427387904) :
    Calls Yba.prog 23 #[.iface 27 (.pointer (some ⟨B, 0, none⟩)), .int .i64 r0, .int .i64 n] w fun e w' => (∃ b, e = .returned (.bool b)) ∧ ∃ m, w' = putRow e32 (Sort.ahead w m) g 0 (heapDown ltInt n r0 d) := by
  go_enter Yba.func23, Yba.ntmps23
  go_wp2_with fail
  go_loopg [7] (n - r0) (fun k s7 wr => ∃ (r q : Nat) (dk : Array Int), s7 = .int .i64 r ∧ r0 ≤ r ∧ r ≤ n ∧ n - r ≤ k ∧ dk.size = d.size ∧ wr = putRow e32 (Sort.ahead w q) g 0 dk ∧ heapDown ltInt n r dk = heapDown ltInt n r0 d)
  case atStart => exact ⟨r0, 0, d, rfl, Nat.le_refl _, hr0, Nat.le_refl _, rfl, (putRow_self e32 w g 0 d h.row).symm, rfl⟩
  case round =>
    obtain ⟨r, q, dk, rfl, hr1, hrn, hk0, hds, hwr, heq⟩ := hrel
    have hk : Hp B g c dk wr := by rw [hwr]; exact h.put q dk hds
    have A : Aside (wr = putRow e32 (Sort.ahead w q) g 0 dk) := hwr
    have HE : Hid (heapDown ltInt n r dk = heapDown ltInt n r0 d) := heq
    clear hwr heq
    by_cases h0 : n ≤ 2 * r + 1
    · have h0z : (n : Int) ≤ 2 * (r : Int) + 1 := by omega
      go_wp2_with fail
      go_ret
      refine ⟨⟨_, rfl⟩, q, ?_⟩
      rw [A.out, ← HE.out, hd_end ltInt dk h0]
    · have h0z : ¬ ((n : Int) ≤ 2 * (r : Int) + 1) := by omega
      have h0y : ¬ (2 * (r : Int) + 1 < 0) := by omega
      by_cases h1 : 2 * r + 2 < n
      · have h1z : 2 * (r : Int) + 1 + 1 < (n : Int) := by omega
        have hm := method_less ⟨B, 0, none⟩ _ wr hk.box
        go_wp2_with fail
        refine (less_any g c dk _ hds (2 * r + 2) (2 * r + 1) _ _ (by omega) (by omega) wr hk.row (by omega) (by omega)).mono ?_
        rintro e w1 ⟨rfl, q1, hw1⟩
        have hk1 : Hp B g c dk w1 := by rw [hw1]; exact hk.drewN q1
        have HW1 : Hid (w1 = wr.drewN q1) := hw1
        clear hm hw1
        cases hL : ltInt dk[2 * r + 2]! dk[2 * r + 1]! with
        | true =>
          have hm2 := method_less ⟨B, 0, none⟩ _ w1 hk1.box
          go_wp2_with fail
          refine (less_any g c dk _ hds (2 * r + 2) r _ _ (by omega) (by omega) w1 hk1.row (by omega) (by omega)).mono ?_
          rintro e w2 ⟨rfl, q2, hw2⟩
          have hk2 : Hp B g c dk w2 := by rw [hw2]; exact hk1.drewN q2
          have hms := method_swap ⟨B, 0, none⟩ _ w2 hk2.box
          have HW2 : Hid (w2 = w1.drewN q2) := hw2
          clear hm2 hw2
          cases hl : ltInt dk[2 * r + 2]! dk[r]! with
          | false =>
            go_wp2_with fail
            go_ret
            refine ⟨⟨_, rfl⟩, q + q1 + q2, ?_⟩
            rw [HW2.out, HW1.out, A.out, putRow_drewN, putRow_drewN, ← HE.out, hd_right_stop ltInt dk h1 hL hl]
          | true =>
            go_wp2_with fail
            refine (swap_any g c dk _ hds r (2 * r + 2) _ _ (by omega) (by omega) w2 hk2.row (by omega) (by omega)).mono ?_
            rintro e w3 ⟨rfl, m, hw3⟩
            have HW3 : Hid (w3 = putRow e32 (Sort.ahead w2 m) g 0 (swp dk r (2 * r + 2))) := hw3
            clear hw3
            go_wp2_with fail
            go_roundg (n - (2 * r + 2))
            case measure => omega
            case rel =>
              refine ⟨2 * r + 2, q + q1 + q2 + m, swp dk r (2 * r + 2), by go_num, by omega, by omega, by omega, by rw [size_swp]; exact hds, ?_, ?_⟩
              · rw [HW3.out, HW2.out, HW1.out, A.out, putRow_drewN, putRow_drewN, putRow_ahead_putRow _ _ _ _ _ _ _ _ (size_swp _ _ _)]
              · rw [← HE.out, hd_right_go ltInt dk h1 hL hl]
        | false =>
          have hm2 := method_less ⟨B, 0, none⟩ _ w1 hk1.box
          go_wp2_with fail
          refine (less_any g c dk _ hds (2 * r + 1) r _ _ (by omega) (by omega) w1 hk1.row (by omega) (by omega)).mono ?_
          rintro e w2 ⟨rfl, q2, hw2⟩
          have hk2 : Hp B g c dk w2 := by rw [hw2]; exact hk1.drewN q2
          have hms := method_swap ⟨B, 0, none⟩ _ w2 hk2.box
          have HW2 : Hid (w2 = w1.drewN q2) := hw2
          clear hm2 hw2
          cases hl : ltInt dk[2 * r + 1]! dk[r]! with
          | false =>
            go_wp2_with fail
            go_ret
            refine ⟨⟨_, rfl⟩, q + q1 + q2, ?_⟩
            rw [HW2.out, HW1.out, A.out, putRow_drewN, putRow_drewN, ← HE.out, hd_left_stop ltInt dk (by omega) (fun _ => hL) hl]
          | true =>
            go_wp2_with fail
            refine (swap_any g c dk _ hds r (2 * r + 1) _ _ (by omega) (by omega) w2 hk2.row (by omega) (by omega)).mono ?_
            rintro e w3 ⟨rfl, m, hw3⟩
            have HW3 : Hid (w3 = putRow e32 (Sort.ahead w2 m) g 0 (swp dk r (2 * r + 1))) := hw3
            clear hw3
            go_wp2_with fail
            go_roundg (n - (2 * r + 1))
            case measure => omega
            case rel =>
              refine ⟨2 * r + 1, q + q1 + q2 + m, swp dk r (2 * r + 1), by go_num, by omega, by omega, by omega, by rw [size_swp]; exact hds, ?_, ?_⟩
              · rw [HW3.out, HW2.out, HW1.out, A.out, putRow_drewN, putRow_drewN, putRow_ahead_putRow _ _ _ _ _ _ _ _ (size_swp _ _ _)]
              · rw [← HE.out, hd_left_go ltInt dk (by omega) (fun _ => hL) hl]
      · have h1z : decide (2 * (r : Int) + 1 + 1 < (n : Int)) = false := decide_eq_false (by omega)
        have hm2 := method_less ⟨B, 0, none⟩ _ wr hk.box
        go_wp2_with fail
        refine (less_any g c dk _ hds (2 * r + 1) r _ _ (by omega) (by omega) wr hk.row (by omega) (by omega)).mono ?_
        rintro e w2 ⟨rfl, q2, hw2⟩
        have hk2 : Hp B g c dk w2 := by rw [hw2]; exact hk.drewN q2
        have hms := method_swap ⟨B, 0, none⟩ _ w2 hk2.box
        have HW2 : Hid (w2 = wr.drewN q2) := hw2
        clear hm2 hw2
        cases hl : ltInt dk[2 * r + 1]! dk[r]! with
        | false =>
          go_wp2_with fail
          go_ret
          refine ⟨⟨_, rfl⟩, q + q2, ?_⟩
          rw [HW2.out, A.out, putRow_drewN, ← HE.out, hd_left_stop ltInt dk (by omega) (fun h => absurd h h1) hl]
        | true =>
          go_wp2_with fail
          refine (swap_any g c dk _ hds r (2 * r + 1) _ _ (by omega) (by omega) w2 hk2.row (by omega) (by omega)).mono ?_
          rintro e w3 ⟨rfl, m, hw3⟩
          have HW3 : Hid (w3 = putRow e32 (Sort.ahead w2 m) g 0 (swp dk r (2 * r + 1))) := hw3
          clear hw3
          go_wp2_with fail
          go_roundg (n - (2 * r + 1))
          case measure => omega
          case rel =>
            refine ⟨2 * r + 1, q + q2 + m, swp dk r (2 * r + 1), by go_num, by omega, by omega, by omega, by rw [size_swp]; exact hds, ?_, ?_⟩
            · rw [HW3.out, HW2.out, A.out, putRow_drewN, putRow_ahead_putRow _ _ _ _ _ _ _ _ (size_swp _ _ _)]
            · rw [← HE.out, hd_left_go ltInt dk (by omega) (fun h => absurd h h1) hl]
end Go.Proofs.Ybulkajny
