import Derived.Test.YbulkajnyPop
import Derived.WalkKit
import Derived.ProofKit
import Derived.OpenShut
import Derived.ShutString
import Derived.ChangeOld
import Derived.Below
import Derived.WalkSmall
namespace Go.Proofs.Ybulkajny.lawS1766APopLast
open Go.ChangeShapes Go.WideShapes Go.ChangeAt Go.RowKit
open Go.ChangeMaps (open_string shut_string)
set_option linter.unusedVariables false

theorem own : ownKnob Yba.prog.godebug = none := by kernel_rfl
theorem laidOut : laidOutB Yba.prog = true := by kernel_rfl

/-- WHAT THE WALK IS TOLD OF A SLICE OF INTEGERS THAT CAME IN: it is nil; or it leads to a row of 'cap' cells, the numbers 'zs' (the first 'len' are its elements, the rest its spare room), each fitting its kind. -/
def IsRow (k : IntKind) (w : World) (a : Option Addr) (len cap : Nat) (zs : List Int) : Prop :=
  (a = none ∧ len = 0 ∧ cap = 0 ∧ zs = []) ∨
  ∃ x, a = some x ∧ len ≤ cap ∧ cap ≤ maxLen ∧ zs.length = cap ∧ (∀ i, i < zs.length → w.cell? (x.add i) = some (.int k (zs.getD i 0))) ∧ ∀ n ∈ zs, (Lit.int k n).wf = true

theorem walk_short (a0 : Option Addr) (len0 cap0 : Nat) (w : World) (h : len0 = 0 ∨ 1024 < len0) :
    Calls Yba.prog 3 #[.slice a0 len0 cap0] w fun e w' => e = .returned (.bool true) ∧ Below w.heap.size w w' := by
  rcases h with rfl | h
  · go_enter Yba.func3, Yba.ntmps3
    go_wp2
    go_ret
    exact ⟨rfl, Below.refl _ _⟩
  · have h0 : ((len0 : Int) == 0) = false := beq_eq_false_iff_ne.2 (by omega)
    go_enter Yba.func3, Yba.ntmps3
    go_wp2
    go_ret
    exact ⟨rfl, Below.refl _ _⟩

/-- What stands behind the copy: the new row, the box. -/
structure Here (w w1 : World) (n : Nat) (zs : List Int) : Prop where
  below : Below w.heap.size w w1
  row : ∀ i, i < n + 1 → w1.cell? ⟨w.heap.size, i, none⟩ = some (.int .i32 (zs.getD i 0))
  box : w1.heap[w.heap.size + 1]? = some (.cells #[.slice (some ⟨w.heap.size, 0, none⟩) (n + 1) (n + 1)] 23 (0, 0))

theorem copy_here (b off n cap : Nat) (zs : List Int) (w : World) (hcap : n + 1 ≤ cap) (hzl : zs.length = cap) (hbw : b < w.heap.size)
    (hc : ∀ i, i < zs.length → w.cell? ⟨b, off + i, none⟩ = some (.int .i32 (zs.getD i 0))) :
    ∃ w2, Here w w2 n zs ∧ (Builtin.copy_ #[23, 22] 3 #[.slice (some ⟨w.heap.size, 0, none⟩) (n + 1) (n + 1), .slice (some ⟨b, off, none⟩) (n + 1) cap]).run Yba.prog
      ((w.alloc (.cells (madeCells #[.int .i32 0] (n + 1)) 21)).alloc (.cells #[.slice (some ⟨w.heap.size, 0, none⟩) (n + 1) (n + 1)] 23)) = .ok (.int .i64 ((n : Int) + 1)) w2 := by
  have hb1 : Below w.heap.size w ((w.alloc (.cells (madeCells #[.int .i32 0] (n + 1)) 21)).alloc (.cells #[.slice (some ⟨w.heap.size, 0, none⟩) (n + 1) (n + 1)] 23)) :=
    ((Below.refl _ _).alloc (Nat.le_refl _) _).alloc (by simp) _
  have hg1 : ((w.alloc (.cells (madeCells #[.int .i32 0] (n + 1)) 21)).alloc (.cells #[.slice (some ⟨w.heap.size, 0, none⟩) (n + 1) (n + 1)] 23)).heap[w.heap.size]? = some (.cells (madeCells #[.int .i32 0] (n + 1)) 21 (0, 0)) := by
    rw [Below.heap_alloc _ _ _ (by simp)]; exact heap_alloc_new w _
  have hg2 : ((w.alloc (.cells (madeCells #[.int .i32 0] (n + 1)) 21)).alloc (.cells #[.slice (some ⟨w.heap.size, 0, none⟩) (n + 1) (n + 1)] 23)).heap[w.heap.size + 1]? = some (.cells #[.slice (some ⟨w.heap.size, 0, none⟩) (n + 1) (n + 1)] 23 (0, 0)) := by
    have := heap_alloc_new (w.alloc (.cells (madeCells #[.int .i32 0] (n + 1)) 21)) (.cells #[.slice (some ⟨w.heap.size, 0, none⟩) (n + 1) (n + 1)] 23)
    simpa using this
  generalize (w.alloc (.cells (madeCells #[.int .i32 0] (n + 1)) 21)).alloc (.cells #[.slice (some ⟨w.heap.size, 0, none⟩) (n + 1) (n + 1)] 23) = w1 at *
  have hsz : ((zs.take (n + 1)).map (Value.int .i32)).length = n + 1 := by simp; omega
  have hrun := run_copy_row (P := Yba.prog) w1 23 22 3 21 w.heap.size 0 (n + 1) (n + 1) ⟨b, off, none⟩ (n + 1) cap _ 21 ((zs.take (n + 1)).map (Value.int .i32)) Yba.underlying23 (by kernel_rfl) hg1 (by rw [hsz]; exact (Nat.min_self _).symm)
    (by
      intro j v hj
      have hjl : j < n + 1 := by
        have := (List.getElem?_eq_some_iff.1 hj).1
        rw [hsz] at this; exact this
      have hv : v = .int .i32 (zs.getD j 0) := by
        simp [hjl] at hj
        obtain ⟨z, hz, rfl⟩ := hj
        simp [hz]
      rw [hv, add_plain, hb1.cell (p := ⟨b, off + j, none⟩) hbw]
      exact hc j (by omega))
    (by rw [hsz, size_madeCells]; omega) (ints_oneCell _ _)
  rw [hsz] at hrun
  refine ⟨_, ⟨below_setRow hb1 (Nat.le_refl _) _, ?_, ?_⟩, hrun⟩
  · intro i hi
    rw [cell_setRow_same _ _ _ _ _ _ _ hg1]
    have hil : i < zs.length := by omega
    simp [List.getElem?_append, hi, hil]
    omega
  · rw [setRow_other _ _ _ _ (by omega)]; exact hg2

/-- Behind Pop. -/
structure Here2 (w w1 : World) (n : Nat) (zs : List Int) : Prop where
  below : Below w.heap.size w w1
  row : ∀ i, i < n + 1 → w1.cell? ⟨w.heap.size, i, none⟩ = some (.int .i32 (zs.getD i 0))
  box : w1.cell? ⟨w.heap.size + 1, 0, none⟩ = some (.slice (some ⟨w.heap.size, 0, none⟩) n (n + 1))

theorem here2 {w w1 : World} {n : Nat} {zs : List Int} (h : Here w w1 n zs) : Here2 w (w1.setCell ⟨w.heap.size + 1, 0, none⟩ (.slice (some ⟨w.heap.size, 0, none⟩) n (n + 1))) n zs := by
  refine ⟨h.below.setCell (by simp) _, fun i hi => ?_, ?_⟩
  · rw [← h.row i hi]
    exact World.cell?_of_block (Below.heap_setCell _ _ _ _ (by simp))
  · exact World.cell?_setCell_same w1 _ _ (cell_of_one h.box)

set_option maxRecDepth 100000 in
set_option maxHeartbeats 400000 in
theorem walk_long (b off n cap : Nat) (zs : List Int) (w : World) (hn : n + 1 ≤ 1024) (hcap : n + 1 ≤ cap) (hmax : cap ≤ maxLen) (hzl : zs.length = cap) (hbw : b < w.heap.size)
    (hc : ∀ i, i < zs.length → w.cell? ⟨b, off + i, none⟩ = some (.int .i32 (zs.getD i 0))) :
    Calls Yba.prog 3 #[.slice (some ⟨b, off, none⟩) (n + 1) cap] w fun e w' => e = .returned (.bool true) ∧ Below w.heap.size w w' := by
  have hmk := run_make_row' (P := Yba.prog) 23 21 (.int .i32 0) 4 Yba.underlying23 info21 rfl .i64 .i64 (n + 1) (by omega) (by omega)
  have ec : ((n + 1 : Nat) : Int) = (n : Int) + 1 := by omega
  rw [ec] at hmk
  clear ec
  unfold maxLen at hmax
  obtain ⟨w2, hH, hcp⟩ := copy_here b off n cap zs w hcap hzl hbw hc
  have h0 : ((n : Int) + 1 == 0) = false := beq_eq_false_iff_ne.2 (by omega)
  have hpop := pop_any (w.heap.size + 1) w.heap.size 0 n (n + 1) (zs.getD n 0) w2 (Nat.le_refl _) (by omega) (by simp [World.cell?, hH.box]) (by simp [World.frozen?, hH.box]) (by simpa using hH.row n (by omega))
  have H2 := here2 hH
  clear hH
  generalize hz : zs.getD n 0 = z at *
  generalize hw3 : w2.setCell ⟨w.heap.size + 1, 0, none⟩ (.slice (some ⟨w.heap.size, 0, none⟩) n (n + 1)) = w3 at *
  have hbx := H2.box
  have hbe := H2.below
  have hlast : w3.cell? ⟨b, off + n, none⟩ = some (.int .i32 z) := by rw [hbe.cell (p := ⟨b, off + n, none⟩) hbw, hc n (by omega), hz]
  have HP : Hid (Calls Yba.prog 7 #[.pointer (some ⟨w.heap.size + 1, 0, none⟩)] w2 fun e w' => e = .returned (.iface 21 (.int .i32 z)) ∧ w' = w3) := hpop
  have HB : Hid (Below w.heap.size w w3) := hbe
  have HZ : Hid (∀ i, i < zs.length → w.cell? ⟨b, off + i, none⟩ = some (.int .i32 (zs.getD i 0))) := hc
  clear hpop hbe hw3 hz hc
  have hta : ∀ (z : Int) (w : World), (Instr.typeAssert (.iface 21 (.int .i32 z)) 20 21 true).run Yba.prog w = .ok (.tuple #[.int .i32 z, .bool true]) w := fun _ _ => by kernel_rfl
  go_enter Yba.func3, Yba.ntmps3
  go_wp2_with fail
  refine HP.out.mono ?_
  rintro e w' ⟨rfl, rfl⟩
  clear HP hcp hmk
  go_wp2_with fail
  go_loopw [8] (fun i wr => ∃ k q : Nat, i = .int .i64 k ∧ k ≤ n ∧ wr = w'.drewN q) (fun i _ => n - (intOf i).toNat)
  case atStart => exact ⟨0, 0, rfl, Nat.zero_le _, rfl⟩
  case round =>
    obtain ⟨k, q, rfl, hk, hwr⟩ := hrel
    by_cases hlt : k < n
    · have c1 : wr.cell? ⟨w.heap.size + 1, 0, none⟩ = some (.slice (some ⟨w.heap.size, 0, none⟩) n (n + 1)) := by rw [hwr]; exact hbx
      have c2 : wr.cell? ⟨w.heap.size, k, none⟩ = some (.int .i32 (zs.getD k 0)) := by rw [hwr]; exact H2.row k (by omega)
      have c3 : wr.cell? ⟨b, off + k, none⟩ = some (.int .i32 (zs.getD k 0)) := by rw [hwr]; exact (HB.out.cell (p := ⟨b, off + k, none⟩) hbw).trans (HZ.out k (by omega))
      have HW : Hid (wr = w'.drewN q) := hwr
      clear hwr hbx hlast
      generalize zs.getD k 0 = y at c2 c3
      have i1 : (0 : Int) ≤ (k : Int) := by omega
      have i2 : (k : Int) < (n : Int) := by omega
      have i3 : (k : Int) < (n : Int) + 1 := by omega
      go_wp2
      go_quiet (fail)
      go_wp2
      go_roundw
      case rel => exact ⟨k + 1, q + nq, by go_num, by omega, by rw [HW.out]; simp⟩
      case measure => simp [intOf]; omega
    · go_wp2
      go_ret
      refine ⟨rfl, ?_⟩
      exact below_drewN HB.out q

theorem walk (a0 : Option Addr) (len0 cap0 : Nat) (z0 : List Int) (w : World) (w0 : IsRow .i32 w a0 len0 cap0 z0) :
    Calls Yba.prog 3 #[.slice a0 len0 cap0] w fun e w' => e = .returned (.bool true) ∧ Below w.heap.size w w' := by
  by_cases h : len0 = 0 ∨ 1024 < len0
  · exact walk_short a0 len0 cap0 w h
  rcases w0 with ⟨_, h0, _, _⟩ | ⟨x, rfl, hl, hm, hz, hcell, _⟩
  · exact absurd (Or.inl h0) h
  obtain ⟨n, rfl⟩ : ∃ n, len0 = n + 1 := ⟨len0 - 1, by omega⟩
  obtain ⟨b, off, spot⟩ := x
  have hspot : spot = none := by simpa [Addr.add] using World.cell?_spot (hcell 0 (by omega))
  subst hspot
  have hc : ∀ i, i < z0.length → w.cell? ⟨b, off + i, none⟩ = some (.int .i32 (z0.getD i 0)) := fun i hi => by rw [← add_plain]; exact hcell i hi
  exact walk_long b off n cap0 z0 w (by omega) hl hm hz (World.block_lt_of_cell? w _ (hc 0 (by omega))) hc

/-! ### THE ROW's STEP: WRITTEN OUT: LEAVE IT -/
set_option maxRecDepth 100000 in
theorem lifted (os : Os) (started : os.Started) (H : Type) (enc : TypeId × Value → H) :
    ReturnsInHanded {} Yba.checked os 3 .any (Rows.lawS1766APopLastSpec.pre6 enc Yba.prog Yba.f3 Rows.lawS1766APopLastRow.domain false) (Rows.lawS1766APopLastSpec.post enc Yba.prog Yba.f3 false true false false) := by
  refine returnsInHanded_of_change (C := Yba.checked) own started (by kernel_rfl) Yba.func3
    (ChangeSpec.witness6 (enc := enc) (C := Yba.checked) false ⟨#[], #[.slice none 0 0], []⟩ 8 (by kernel_rfl) (by kernel_rfl) (by kernel_rfl) (by kernel_rfl)) ?_
  intro W base args ds gs before hval0 hW hcnd _
  have hval : ∀ (j : Nat) t v, Yba.f3.params[j]? = some t → args[j]? = some v → Value.okWide Yba.prog W .any base t v := hval0
  have hW' := hW
  obtain ⟨p, q, hA0, hV, rfl, hfz, hnd⟩ := hW
  have hA : DataW.TrodAll enc Yba.prog W 0 (fun _ => true) true Yba.f3.params.toList args.toList ds p := hA0
  rw [Yba.params3] at hA hval
  obtain ⟨v0, vs0, d0, ds0, p0, q0, hargs, rfl, rfl, h0, r0⟩ := trodAll_cons hA
  obtain ⟨rfl, rfl, rfl⟩ := trodAll_nil r0
  obtain rfl : args = #[v0] := by cases args; simp_all
  obtain ⟨rfl, rfl⟩ := trodVars_none hV
  obtain ⟨a0, len0, cap0, rfl⟩ := okWide_slice Yba.underlying22 (hval 0 22 v0 rfl rfl)
  have k0 := h0
  have lt0 : ∀ x ∈ p0, x.block < W.heap.size := by obtain ⟨m, hm⟩ := k0; exact DataW.trod_lt m _ _ _ hm
  obtain ⟨z0, w0⟩ : ∃ zs, IsRow .i32 W a0 len0 cap0 zs := by
    obtain ⟨fuel, hf⟩ := h0
    rcases open_ints Yba.underlying22 Yba.underlying21 (by kernel_rfl) hf with ⟨hcs, _⟩ | ⟨x, l, c, zs, hcs, _, hl, hm, hz, _, hcell, hwz⟩
    · simp [Value.cells] at hcs
      obtain ⟨rfl, rfl, rfl⟩ := hcs
      exact ⟨[], .inl ⟨rfl, rfl, rfl, rfl⟩⟩
    · simp [Value.cells] at hcs
      obtain ⟨rfl, rfl, rfl⟩ := hcs
      exact ⟨zs, .inr ⟨_, rfl, hl, hm, by simpa using hz, hcell, hwz⟩⟩
  clear hA0 hval0
  refine (walk a0 len0 cap0 z0 W w0).mono fun e W' ⟨he, bel⟩ => ?_
  subst he
  exact ⟨_, rfl, _, _, _, [], _, [], hW', trodAll_mk1 (shut_bool Yba.underlying4 _), (trodAll_cons_mk (Below.trod laidOut (by kernel_rfl) (of_decide_eq_true (by kernel_rfl)) k0 bel lt0) trodAll_mk0), rfl, bel.frame _, fun h => by cases h⟩

theorem over : Rows.lawS1766APopLastRow.holds Yba.pinned (OpenSpec.ofChange Rows.lawS1766APopLastSpec) :=
  OpenClaim.holds_of_wide 3 Yba.f3 rfl rfl rfl rfl rfl rfl rfl ⟨rfl, rfl, rfl, rfl, rfl⟩ rfl rfl rfl rfl rfl (by kernel_rfl) Yba.func3 (by kernel_rfl)
    (of_decide_eq_true (by kernel_rfl)) (by unfold Func.isWrapper; first | (rw [if_pos (by decide +kernel)]; kernel_rfl) | (rw [if_neg (by decide +kernel)]; exact ⟨rfl, rfl⟩))
    (fun os started H enc _ => lifted os started H enc)

/-- ████ THE STATEMENT ████ -/
theorem proved : Rows.LawS1766APopLastSaid := over
#print axioms proved
end Go.Proofs.Ybulkajny.lawS1766APopLast
