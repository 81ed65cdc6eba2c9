import Derived.Test.YbulkakawRows
import Derived.Test.YbulkakawLaw
import Derived.WalkKit
import Derived.ProofKit
import Derived.OpenShut
import Derived.ChangeOld
import Derived.Below
import Derived.Deep.Grids
namespace Go.Proofs.Ybulkakaw
open Go.ChangeShapes Go.WideShapes Go.ChangeAt Go.RowKit

theorem own : ownKnob Yba.prog.godebug = none := by kernel_rfl
theorem laidOut : laidOutB Yba.prog = true := by kernel_rfl

set_option maxRecDepth 100000 in
theorem law_long (a0 : Option Addr) (n c0 : Nat) (v1 : Value) (pk now : Int) (w : World) (h : 1024 < n) :
    Calls Yba.prog 3 #[.slice a0 n c0, v1, .int .u8 pk, .int .i32 now] w fun e w' => e = .returned (.bool true) ∧ Below w.heap.size w w' := by
  have h1 : (1024 : Int) < (n : Int) := by omega
  go_enter Yba.func3, Yba.ntmps3
  go_wp2
  go_ret
  exact ⟨rfl, Below.refl _ _⟩
set_option maxRecDepth 100000 in
theorem law_none (a0 : Option Addr) (c0 : Nat) (v1 : Value) (pk now : Int) (w : World) :
    Calls Yba.prog 3 #[.slice a0 0 c0, v1, .int .u8 pk, .int .i32 now] w fun e w' => e = .returned (.bool true) ∧ Below w.heap.size w w' := by
  go_enter Yba.func3, Yba.ntmps3
  go_wp2
  go_ret
  exact ⟨rfl, Below.refl _ _⟩

/-- A slice of integers that came in. -/
def IsRow (k : IntKind) (w : World) (a : Option Addr) (len cap : Nat) (zs : List Int) : Prop :=
  (a = none ∧ len = 0 ∧ cap = 0 ∧ zs = []) ∨
  ∃ x, a = some x ∧ len ≤ cap ∧ cap ≤ maxLen ∧ zs.length = cap ∧ (∀ i, i < zs.length → w.cell? (x.add i) = some (.int k (zs.getD i 0))) ∧ ∀ n ∈ zs, (Lit.int k n).wf = true
/-- A slice of bools that came in. -/
def IsBools (w : World) (a : Option Addr) (len : Nat) (rs : List Bool) : Prop :=
  (a = none ∧ len = 0) ∨ ∃ x, a = some x ∧ ∀ i, i < len → w.cell? (x.add i) = some (.bool (rs.getD i false))

theorem wf_i32 {n : Int} (h : (Lit.int .i32 n).wf = true) : -2147483648 ≤ n ∧ n ≤ 2147483647 := by
  simp [Lit.wf, IntKind.min, IntKind.max, IntKind.signed, IntKind.bits] at h
  omega

theorem walk (a0 : Option Addr) (n c0 : Nat) (z : List Int) (a1 : Option Addr) (nr c1 : Nat) (rs : List Bool) (pk now : Int) (w : World) (h0 : IsRow .i32 w a0 n c0 z) (h1 : IsBools w a1 nr rs)
    (hp0 : 0 ≤ pk) (hp1 : pk ≤ 255) (hn0 : -2147483648 ≤ now) (hn1 : now ≤ 2147483647) :
    Calls Yba.prog 3 #[.slice a0 n c0, .slice a1 nr c1, .int .u8 pk, .int .i32 now] w fun e w' => e = .returned (.bool true) ∧ Below w.heap.size w w' := by
  by_cases hl : 1024 < n
  · exact law_long a0 n c0 _ pk now w hl
  by_cases hz : n = 0
  · subst hz; exact law_none a0 c0 _ pk now w
  obtain ⟨pn, rfl⟩ := Int.eq_ofNat_of_zero_le hp0
  rcases h0 with ⟨_, e, _⟩ | ⟨x, rfl, hle, hm, hzl, hcell, hwf⟩
  · exact absurd e hz
  obtain ⟨b, off, spot⟩ := x
  have hspot : spot = none := by simpa [Addr.add] using World.cell?_spot (hcell 0 (by omega))
  subst hspot
  have hc : ∀ i, i < z.length → w.cell? ⟨b, off + i, none⟩ = some (.int .i32 (z.getD i 0)) := fun i hi => by rw [← add_plain]; exact hcell i hi
  refine law_walk b off n c0 z a1 nr c1 rs pn now w (by omega) (by omega) (World.block_lt_of_cell? w _ (hc 0 (by omega))) (fun i hi => hc i (by omega)) (fun i => ?_) (fun j hj => ?_) (by omega) hn0 hn1
  · by_cases hi : i < z.length
    · have e : z.getD i 0 = z[i] := by simp [hi]
      rw [e]
      exact wf_i32 (hwf _ (List.getElem_mem hi))
    · have e : z.getD i 0 = 0 := by simp [List.getElem?_eq_none (Nat.le_of_not_lt hi)]
      rw [e]; omega
  · rcases h1 with ⟨_, e⟩ | ⟨y, rfl, hy⟩
    · omega
    · obtain ⟨b1, o1, s1⟩ := y
      have hs1 : s1 = none := by simpa [Addr.add] using World.cell?_spot (hy 0 (by omega))
      subst hs1
      have := hy j hj
      rw [add_plain] at this
      exact ⟨b1, o1, rfl, World.block_lt_of_cell? w _ this, this⟩

set_option maxRecDepth 100000 in
theorem lifted (os : Os) (started : os.Started) (H : Type) (enc : TypeId × Value → H) :
    ReturnsInHanded {} Yba.checked os 3 .any (Rows.lawS1790AStopSpec.pre6 enc Yba.prog Yba.f3 Rows.lawS1790AStopRow.domain false) (Rows.lawS1790AStopSpec.post enc Yba.prog Yba.f3 false true false false) := by
  refine returnsInHanded_of_change (C := Yba.checked) own started (by kernel_rfl) Yba.func3
    (ChangeSpec.witness6 (enc := enc) (C := Yba.checked) false ⟨#[], #[.slice none 0 0, .slice none 0 0, .int .u8 0, .int .i32 0], []⟩ 8 (by kernel_rfl) (by kernel_rfl) (by kernel_rfl) (by kernel_rfl)) ?_
  intro W base args ds gs before hval0 hW hcnd _
  have hval : ∀ (j : Nat) t v, Yba.f3.params[j]? = some t → args[j]? = some v → Value.okWide Yba.prog W .any base t v := hval0
  have hW' := hW
  obtain ⟨p, q, hA0, hV, rfl, hfz, hnd⟩ := hW
  have hA : DataW.TrodAll enc Yba.prog W 0 (fun _ => true) true Yba.f3.params.toList args.toList ds p := hA0
  rw [Yba.params3] at hA hval
  obtain ⟨v0, vs0, d0, ds0, p0, q0, hargs, rfl, rfl, h0, r0⟩ := trodAll_cons hA
  obtain ⟨v1, vs1, d1, ds1, p1, q1, rfl, rfl, rfl, h1, r1⟩ := trodAll_cons r0
  obtain ⟨v2, vs2, d2, ds2, p2, q2, rfl, rfl, rfl, h2, r2⟩ := trodAll_cons r1
  obtain ⟨v3, vs3, d3, ds3, p3, q3, rfl, rfl, rfl, h3, r3⟩ := trodAll_cons r2
  obtain ⟨rfl, rfl, rfl⟩ := trodAll_nil r3
  obtain rfl : args = #[v0, v1, v2, v3] := by cases args; simp_all
  obtain ⟨rfl, rfl⟩ := trodVars_none hV
  obtain ⟨a0, len0, cap0, rfl⟩ := okWide_slice Yba.underlying22 (hval 0 22 v0 rfl rfl)
  obtain ⟨a1, len1, cap1, rfl⟩ := okWide_slice Yba.underlying23 (hval 1 23 v1 rfl rfl)
  obtain ⟨pk, rfl, rfl, rfl, wp⟩ := open_int Yba.underlying5 (hval 2 5 v2 rfl rfl) h2
  obtain ⟨now, rfl, rfl, rfl, wn⟩ := open_int Yba.underlying21 (hval 3 21 v3 rfl rfl) h3
  have k0 := h0
  have k1 := h1
  have lt0 : ∀ x ∈ p0, x.block < W.heap.size := by obtain ⟨m, hm⟩ := k0; exact DataW.trod_lt m _ _ _ hm
  have lt1 : ∀ x ∈ p1, x.block < W.heap.size := by obtain ⟨m, hm⟩ := k1; exact DataW.trod_lt m _ _ _ hm
  obtain ⟨z0, w0⟩ : ∃ zs, IsRow .i32 W a0 len0 cap0 zs := by
    obtain ⟨fuel, hf⟩ := h0
    rcases open_ints Yba.underlying22 Yba.underlying21 (by kernel_rfl) hf with ⟨hcs, _⟩ | ⟨x, l, c, zs, hcs, _, hl, hm, hz, _, hcell, hwz⟩
    · simp [Value.cells] at hcs
      obtain ⟨rfl, rfl, rfl⟩ := hcs
      exact ⟨[], .inl ⟨rfl, rfl, rfl, rfl⟩⟩
    · simp [Value.cells] at hcs
      obtain ⟨rfl, rfl, rfl⟩ := hcs
      exact ⟨zs, .inr ⟨_, rfl, hl, hm, by simpa using hz, hcell, hwz⟩⟩
  obtain ⟨rs, w1⟩ : ∃ rs, IsBools W a1 len1 rs := by
    obtain ⟨fuel, hf⟩ := h1
    rcases Go.Deep.open_bools Yba.underlying23 Yba.underlying4 (by kernel_rfl) hf with ⟨hcs, _⟩ | ⟨x, l, c, Bs, hcs, _, hl, hm, _, hcell⟩
    · simp [Value.cells] at hcs
      obtain ⟨rfl, rfl, rfl⟩ := hcs
      exact ⟨[], .inl ⟨rfl, rfl⟩⟩
    · simp [Value.cells] at hcs
      obtain ⟨rfl, rfl, rfl⟩ := hcs
      refine ⟨(List.range len1).map Bs, .inr ⟨_, rfl, fun i hi => ?_⟩⟩
      rw [hcell i (by omega)]
      simp [hi]
  clear hA0 hval0
  obtain ⟨c0, c1⟩ : 0 ≤ pk ∧ pk ≤ 255 := by
    have := wp
    simp [Lit.wf, IntKind.min, IntKind.max, IntKind.signed, IntKind.bits] at this
    omega
  obtain ⟨n0, n1⟩ := wf_i32 wn
  refine (walk a0 len0 cap0 z0 a1 len1 cap1 rs pk now W w0 w1 c0 c1 n0 n1).mono fun e W' ⟨he, bel⟩ => ?_
  subst he
  refine ⟨_, rfl, _, _, _, [], p0 ++ (p1 ++ ([] ++ ([] ++ []))), [], hW', trodAll_mk1 (shut_bool Yba.underlying4 _), ?_, rfl, bel.frame _, fun h => by cases h⟩
  exact trodAll_cons_mk (Below.trod laidOut (by kernel_rfl) (of_decide_eq_true (by kernel_rfl)) k0 bel lt0) (trodAll_cons_mk (Below.trod laidOut (by kernel_rfl) (of_decide_eq_true (by kernel_rfl)) k1 bel lt1)
    (trodAll_cons_mk (shut_int Yba.underlying5 wp) (trodAll_cons_mk (shut_int Yba.underlying21 wn) trodAll_mk0)))

theorem over : Rows.lawS1790AStopRow.holds Yba.pinned (OpenSpec.ofChange Rows.lawS1790AStopSpec) :=
  OpenClaim.holds_of_wide 3 Yba.f3 rfl rfl rfl rfl rfl rfl rfl ⟨rfl, rfl, rfl, rfl, rfl⟩ rfl rfl rfl rfl rfl (by kernel_rfl) Yba.func3 (by kernel_rfl)
    (of_decide_eq_true (by kernel_rfl)) (by unfold Func.isWrapper; first | (rw [if_pos (by decide +kernel)]; kernel_rfl) | (rw [if_neg (by decide +kernel)]; exact ⟨rfl, rfl⟩))
    (fun os started H enc _ => lifted os started H enc)

theorem stop_said : Rows.LawS1790AStopSaid := over
#print axioms stop_said
end Go.Proofs.Ybulkakaw
