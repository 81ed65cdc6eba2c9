import Derived.Test.YbulkakawTail7
import Derived.Deep.DeepCutAuto
namespace Go.Proofs.Ybulkakaw
open Go.RowKit Go.Sort

theorem info31 : (Yba.prog.info? 31).map (fun i => (i.zero, i.size, i.bytes)) = some (some (.pointer none), 1, 8) := by kernel_rfl

/-- The plain data that the law was called with. -/
abbrev dueOf (z : List Int) : Nat → Int := fun j => z.getD j 0
abbrev runOf (nr : Nat) (rs : List Bool) : Nat → Bool := fun j => decide (j < nr) && rs.getD j false

set_option maxRecDepth 100000 in
set_option maxHeartbeats 4000000 in
theorem law_walk (b0 o0 n c0 : Nat) (z : List Int) (p1 : Option Addr) (nr c1 : Nat) (rs : List Bool) (pk : Nat) (now : Int) (w : World) (hn0 : 0 < n) (hn : n ≤ 1024) (hb0 : b0 < w.heap.size)
    (hc : ∀ i, i < n → w.cell? ⟨b0, o0 + i, none⟩ = some (.int .i32 (z.getD i 0))) (hzb : ∀ i, -2147483648 ≤ z.getD i 0 ∧ z.getD i 0 ≤ 2147483647)
    (hr : ∀ j, j < nr → ∃ b1 o1, p1 = some ⟨b1, o1, none⟩ ∧ b1 < w.heap.size ∧ w.cell? ⟨b1, o1 + j, none⟩ = some (.bool (rs.getD j false))) (hpk : pk ≤ 255) (hw0 : -2147483648 ≤ now) (hw1 : now ≤ 2147483647) :
    Calls Yba.prog 3 #[.slice (some ⟨b0, o0, none⟩) n c0, .slice p1 nr c1, .int .u8 pk, .int .i32 now] w fun e w' => e = .returned (.bool true) ∧ Below w.heap.size w w' := by
  have hgt : ¬ (1024 : Int) < (n : Int) := by omega
  have hnz : ((n : Int) == 0) = false := beq_eq_false_iff_ne.2 (by omega)
  have hmk := run_make_row' (P := Yba.prog) 30 31 (.pointer none) 8 Yba.underlying30 info31 rfl .i64 .i64 n (by omega) (by omega)
  have HC : Hid (∀ i, i < n → w.cell? ⟨b0, o0 + i, none⟩ = some (.int .i32 (z.getD i 0))) := hc
  have HR : Hid (∀ j, j < nr → ∃ b1 o1, p1 = some ⟨b1, o1, none⟩ ∧ b1 < w.heap.size ∧ w.cell? ⟨b1, o1 + j, none⟩ = some (.bool (rs.getD j false))) := hr
  have HZ : Hid (∀ i, -2147483648 ≤ z.getD i 0 ∧ z.getD i 0 ≤ 2147483647) := hzb
  clear hc hr hzb
  go_enter Yba.func3, Yba.ntmps3
  refine wp_seq_k (fun K0 hK => ?_)
  have HK0 : Hid _ := hK
  clear hK
  go_wp2_with fail
  refine HK0.out _ _ ?_
  refine wp_seq_k (fun K1 hK => ?_)
  have HK1 : Hid _ := hK
  clear hK
  go_wp2_with fail
  refine HK1.out _ _ ?_
  refine wp_seq_k (fun K2 hK => ?_)
  have HK2 : Hid _ := hK
  clear hK
  go_wp2_with fail
  refine HK2.out _ _ ?_
  refine wp_seq_k (fun K3 hK => ?_)
  have HK3 : Hid _ := hK
  clear hK
  go_wp2_with fail
  refine HK3.out _ _ ?_
  refine wp_seq_k (fun K4 hK => ?_)
  have HK4 : Hid _ := hK
  clear hK
  go_wp2_with fail
  refine HK4.out _ _ ?_
  refine wp_seq_k (fun K5 hK => ?_)
  have HK5 : Hid _ := hK
  clear hK
  go_wp2_with fail
  refine HK5.out _ _ ?_
  clear hmk
  refine wp_seq_k (fun K7 hK => ?_)
  have HK7 : Hid _ := hK
  clear hK
  go_wp2_with fail
  go_loopg [12, 13] n (fun q s12 _ wr => ∃ (k : Nat) (B : Nat → Nat), s12 = .int .i64 k ∧ k ≤ n ∧ n - k ≤ q ∧ St w n (dueOf z) (runOf nr rs) B k wr)
  case atStart => exact ⟨0, fun _ => 0, rfl, Nat.zero_le _, Nat.le_refl _, St.start w n _ (by simp [madeCells])⟩
  case round =>
    obtain ⟨k, B, rfl, hkn, hq, hS⟩ := hrel
    by_cases hk : k < n
    · have i1 : (k : Int) < (n : Int) := by omega
      have hck : wr.cell? ⟨b0, o0 + k, none⟩ = some (.int .i32 (dueOf z k)) := (hS.only.cell (p := ⟨b0, o0 + k, none⟩) hb0 (fun h => h)).trans (HC.out k hk)
      obtain ⟨cur, t1, t2, t3⟩ := hS.ts
      have hlt : w.heap.size + 1 < wr.heap.size := (Array.getElem?_eq_some_iff.1 t1).1
      obtain ⟨v0, hv0⟩ : ∃ v0, cur[k]? = some v0 := ⟨cur[k]'(by omega), by simp⟩
      have ct : wr.cell? ⟨w.heap.size + 1, k, none⟩ = some v0 := cell_of_block t1 hv0
      have ft := free_of_block (o := k) t1
      have hbw : b0 < wr.heap.size := by omega
      have hD : ∀ v o, ((wr.setCell ⟨w.heap.size + 1, k, none⟩ v).alloc o).cell? ⟨b0, o0 + k, none⟩ = some (.int .i32 (dueOf z k)) := fun v o =>
        (((only_setCell wr ⟨w.heap.size + 1, k, none⟩ v).step (only_alloc _ o) (fun _ _ hf => hf.elim)).cell (p := ⟨b0, o0 + k, none⟩) hbw (fun e => by simp at e; omega)).trans hck
      have HB : -2147483648 ≤ dueOf z k ∧ dueOf z k ≤ 2147483647 := HZ.out k
      have HS : Hid (∀ r, runOf nr rs k = r → ∀ w2, Only (fun _ => False) ((wr.setCell ⟨w.heap.size + 1, k, none⟩ (.pointer (some ⟨wr.heap.size, 0, none⟩))).alloc (.cells (tcells wr.heap.size 0 (-1) r) 47)) w2 →
          Calls Yba.prog 4 #[.pointer (some ⟨w.heap.size, 0, none⟩), .pointer (some ⟨wr.heap.size, 0, none⟩), tval (dueOf z k)] w2 fun e w' => e = .returned (.tuple #[]) ∧ ∃ B', St w n (dueOf z) (runOf nr rs) B' (k + 1) w') :=
        fun r hr w2 o2 => hS.round hk hn r hr w2 o2
      clear t1 t2 t3 hv0
      by_cases hkr : k < nr
      · obtain ⟨b1, o1, rfl, hb1, hcr⟩ := HR.out k hkr
        have i2 : (k : Int) < (nr : Int) := by omega
        have hcr' : wr.cell? ⟨b1, o1 + k, none⟩ = some (.bool (rs.getD k false)) := (hS.only.cell (p := ⟨b1, o1 + k, none⟩) hb1 (fun h => h)).trans hcr
        have hE : ∀ o, (wr.alloc o).cell? ⟨b1, o1 + k, none⟩ = some (.bool (rs.getD k false)) := fun o => keep0 (only_alloc wr o) hcr'
        have hrun : runOf nr rs k = rs.getD k false := by simp [runOf, hkr]
        have HRU : Hid (runOf nr rs k = rs.getD k false) := hrun
        clear hcr hS hrun
        generalize rs.getD k false = rk at *
        generalize dueOf z k = dk at *
        go_wp2_with fail
        refine (at_any dk _ HB.1 HB.2).mono ?_
        rintro e w1 ⟨rfl, o1'⟩
        go_wp2_with fail
        refine (HS.out rk HRU.out w1 o1').mono ?_
        rintro e w2 ⟨rfl, B', hS'⟩
        go_wp2_with fail
        go_roundg (n - (k + 1))
        case measure => omega
        case rel => exact ⟨k + 1, B', by go_num, by omega, by omega, hS'⟩
      · have i2 : decide ((k : Int) < (nr : Int)) = false := decide_eq_false (by omega)
        have hrun : runOf nr rs k = false := by simp [runOf, hkr]
        have HRU : Hid (runOf nr rs k = false) := hrun
        clear hS hrun
        generalize dueOf z k = dk at *
        go_wp2_with fail
        refine (at_any dk _ HB.1 HB.2).mono ?_
        rintro e w1 ⟨rfl, o1'⟩
        go_wp2_with fail
        refine (HS.out false HRU.out w1 o1').mono ?_
        rintro e w2 ⟨rfl, B', hS'⟩
        go_wp2_with fail
        go_roundg (n - (k + 1))
        case measure => omega
        case rel => exact ⟨k + 1, B', by go_num, by omega, by omega, hS'⟩
    · obtain rfl : k = n := by omega
      have i0 : ¬ (k : Int) < (k : Int) := by omega
      have HC2 : Hid (∀ i, i < k → ∀ w', Only (fun _ => False) w w' → w'.cell? ⟨b0, o0 + i, none⟩ = some (.int .i32 (dueOf z i))) := fun i hi w' o => keep0 o (HC.out i hi)
      have HS : Hid (St w k (dueOf z) (runOf nr rs) B k wr) := hS
      have HD : Hid (∀ i, -2147483648 ≤ dueOf z i ∧ dueOf z i ≤ 2147483647) := HZ.out
      clear HC HR HZ hS
      generalize dueOf z = due at *
      generalize runOf nr rs = run at *
      go_wp2_with fail
      refine HK7.out _ _ ?_
      exact tail7 w b0 o0 c0 B k hn0 hn due run pk hpk now hw0 hw1 wr HS HC2 HD _ rfl
end Go.Proofs.Ybulkakaw
