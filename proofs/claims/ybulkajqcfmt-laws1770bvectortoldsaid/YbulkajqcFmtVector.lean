import Derived.Test.YbulkajqcFmtCards
import Derived.Test.YbulkajqcFmtLaw
import Derived.ProofKit
import Derived.ChangeOld
import Derived.Stop.JoinedTold
import Derived.SevenToldRow
import Derived.OpenShut
namespace Go.Proofs.YbulkajqcFmt
open Go.ChangeShapes Go.WideShapes Go.ChangeAt Go.RowKit Go.OpenShut
open Go.Extern.Stop Go.Stop Go.Extern

theorem law_long (a0 : Option Addr) (np c0 : Nat) (cnt : Int) (pad : Bool) (a3 : Option Addr) (ns c3 : Nat) (base : Int) (w : World) (h : 1024 < np ∨ 1024 < ns) :
    Calls Ybaf.prog 3 #[.slice a0 np c0, .int .u8 cnt, .bool pad, .slice a3 ns c3, .int .i64 base] w fun e w' => e = .returned (.bool true) ∧ Below w.heap.size w w' := by
  by_cases h1 : 1024 < np
  · have h1' : (1024 : Int) < (np : Int) := by omega
    go_enter Ybaf.func3, Ybaf.ntmps3
    go_wp2
    go_ret
    exact ⟨rfl, Below.refl _ _⟩
  · have h1' : decide ((1024 : Int) < (np : Int)) = false := decide_eq_false (by omega)
    have h2' : (1024 : Int) < (ns : Int) := by omega
    go_enter Ybaf.func3, Ybaf.ntmps3
    go_wp2
    go_ret
    exact ⟨rfl, Below.refl _ _⟩

/-- What is known of a slice of bytes that came in. -/
def IsRow (w : World) (a : Option Addr) (len cap : Nat) (zs : List Int) : Prop :=
  (a = none ∧ len = 0 ∧ cap = 0 ∧ zs = []) ∨
  ∃ x, a = some x ∧ len ≤ cap ∧ cap ≤ maxLen ∧ zs.length = cap ∧ (∀ i, i < zs.length → w.cell? (x.add i) = some (.int .u8 (zs.getD i 0))) ∧ ∀ n ∈ zs, (Lit.int .u8 n).wf = true

theorem law_all (F : Interp) (a0 : Option Addr) (np c0 : Nat) (z0 : List Int) (cnt : Int) (pad : Bool) (a3 : Option Addr) (ns c3 : Nat) (z3 : List Int) (base : Int) (w : World) (hF : F.answers w.tape)
    (r0 : IsRow w a0 np c0 z0) (r3 : IsRow w a3 ns c3 z3) (hcnt0 : 0 ≤ cnt) (hcnt : cnt ≤ 255) :
    Calls Ybaf.prog 3 #[.slice a0 np c0, .int .u8 cnt, .bool pad, .slice a3 ns c3, .int .i64 base] w fun e w' => e = .returned (.bool true) ∧ Below w.heap.size w w' := by
  by_cases h : 1024 < np ∨ 1024 < ns
  · exact law_long a0 np c0 cnt pad a3 ns c3 base w h
  have hP : (z0.take np).length = np := by
    rcases r0 with ⟨_, h1, _, h2⟩ | ⟨x, _, hl, _, hz, _⟩
    · simp [h1]
    · simp; omega
  have h0 : a0 = none → np = 0 ∧ c0 = 0 := by
    intro ha
    rcases r0 with ⟨_, h1, h2, _⟩ | ⟨x, hx, _⟩
    · exact ⟨h1, h2⟩
    · rw [ha] at hx; cases hx
  have hc0 : ∀ ad, a0 = some ad → ∀ j, j < np → w.cell? (ad.add j) = some (.int .u8 ((z0.take np).getD j 0)) := by
    intro ad ha j hj
    rcases r0 with ⟨h1, _⟩ | ⟨x, hx, hl, _, hz, hc, _⟩
    · rw [h1] at ha; cases ha
    · rw [hx] at ha
      cases ha
      rw [hc j (by omega)]
      simp [hj]
  by_cases hs : ns = 0
  · subst hs
    cases pad
    · exact law_none_one F a0 np c0 _ cnt a3 c3 base w hF (by omega) hP h0 hc0 hcnt0 hcnt
    · exact law_none_pad F a0 np c0 _ cnt a3 c3 base w hF (by omega) hP h0 hc0 hcnt0 hcnt
  · rcases r3 with ⟨_, h1, _⟩ | ⟨x, rfl, hl, hm, hz, hc, hwf⟩
    · exact absurd h1 hs
    obtain ⟨b, o, spot⟩ := x
    have hspot : spot = none := by simpa [Addr.add] using World.cell?_spot (hc 0 (by omega))
    subst hspot
    have hS : (z3.take ns).length = ns := by simp; omega
    have hget : ∀ j, j < ns → (z3.take ns).getD j 0 = z3.getD j 0 := fun j hj => by simp [hj]
    have hc3 : ∀ j, j < ns → w.cell? ⟨b, o + j, none⟩ = some (.int .u8 ((z3.take ns).getD j 0)) := fun j hj => by rw [← add_plain, hc j (by omega), hget j hj]
    have hs3 : ∀ j, j < ns → 0 ≤ (z3.take ns).getD j 0 ∧ (z3.take ns).getD j 0 ≤ 255 := fun j hj => by
      rw [hget j hj]
      have hm : z3.getD j 0 ∈ z3 := by
        have hjl : j < z3.length := by omega
        simp [hjl]
      have := hwf _ hm
      simp [Lit.wf, IntKind.min, IntKind.max, IntKind.signed, IntKind.bits] at this
      simp
      omega
    cases pad
    · exact law_some_one F a0 np c0 _ cnt b o ns c3 _ base w hF (by omega) (by omega) hP hS h0 hc0 hc3 hs3 hcnt0 hcnt
    · exact law_some_pad F a0 np c0 _ cnt b o ns c3 _ base w hF (by omega) (by omega) hP hS h0 hc0 hc3 hs3 hcnt0 hcnt

theorem own : ownKnob Ybaf.prog.godebug = none := by kernel_rfl
theorem laidOut : laidOutB Ybaf.pinned.checked.prog = true := by kernel_rfl
theorem stops : Ybaf.pinned.checked.prog.stops = Rows.lawS1770BVectorRow.stops := by kernel_rfl
theorem stopKnobs : Ybaf.pinned.checked.prog.stopKnobs = [] := by kernel_rfl
theorem quiet (os : Os) : Stop.quiet Ybaf.pinned.checked.prog os := by
  intro k hk
  rw [stopKnobs] at hk
  cases hk

theorem row_of {W : World} {H : Type} {enc : TypeId × Value → H} {base : Nat} {v : Value} {d : DataW H} {p : List MemPlace} (hv : Value.okWide Ybaf.prog W .any base 22 v) (h : DataW.Trod enc Ybaf.prog W 0 (fun _ => true) true 22 v d p) :
    ∃ a len cap zs, v = .slice a len cap ∧ IsRow W a len cap zs := by
  obtain ⟨a0, len0, cap0, rfl⟩ := okWide_slice Ybaf.underlying22 hv
  obtain ⟨fuel, hf⟩ := h
  rcases open_ints Ybaf.underlying22 Ybaf.underlying5 (by kernel_rfl) hf with ⟨hcs, _⟩ | ⟨x, l, c, zs, hcs, _, hl, hm, hz, _, hcell, hwz⟩
  · simp [Value.cells] at hcs
    obtain ⟨rfl, rfl, rfl⟩ := hcs
    exact ⟨_, _, _, [], rfl, .inl ⟨rfl, rfl, rfl, rfl⟩⟩
  · simp [Value.cells] at hcs
    obtain ⟨rfl, rfl, rfl⟩ := hcs
    exact ⟨_, _, _, zs, rfl, .inr ⟨_, rfl, hl, hm, by simpa using hz, hcell, hwz⟩⟩

set_option maxRecDepth 100000 in
set_option maxHeartbeats 800000 in
theorem lifted (os : Os) (started : os.Started) (H : Type) (enc : TypeId × Value → H) :
    ReturnsInTold none {} Ybaf.checked os 3 .any Input.okWide ((OpenSpec.ofChange Rows.lawS1770BVectorSpec).preRow enc Ybaf.prog Ybaf.f3 [] false [])
      (fun F => ((OpenSpec.ofChange Rows.lawS1770BVectorSpec).at F).post enc Ybaf.prog Ybaf.f3 false true false false) (aloneAtReturn Ybaf.prog) nothingAlways := by
  refine returnsInTold_of_row (C := Ybaf.checked) (s := OpenSpec.ofChange Rows.lawS1770BVectorSpec) (by kernel_rfl) own started (by kernel_rfl) Ybaf.func3
    (OpenSpec.witness_stopped (enc := enc) (C := Ybaf.checked) false ⟨#[], #[.slice none 0 0, .int .u8 0, .bool false, .slice none 0 0, .int .i64 0], []⟩ 8 (by kernel_rfl) (by kernel_rfl) (by kernel_rfl) (by kernel_rfl)) ?_
  intro F W base args ds gs before _ hF hval0 hW _ _ _ _ _
  have hval : ∀ (j : Nat) t v, Ybaf.f3.params[j]? = some t → args[j]? = some v → Value.okWide Ybaf.prog W .any base t v := hval0
  have hW' := hW
  obtain ⟨p, q, hA0, hV, rfl, hfz, hnd⟩ := hW
  have hA : DataW.TrodAll enc Ybaf.prog W 0 (fun _ => true) true Ybaf.f3.params.toList args.toList ds p := hA0
  rw [Ybaf.params3] at hA hval
  obtain ⟨v0, vs0, d0, ds0, p0, q0, hargs, rfl, rfl, h0, r0⟩ := trodAll_cons hA
  obtain ⟨v1, vs1, d1, ds1, p1, q1, rfl, rfl, rfl, h1, r1⟩ := trodAll_cons r0
  obtain ⟨v2, vs2, d2, ds2, p2, q2, rfl, rfl, rfl, h2, r2⟩ := trodAll_cons r1
  obtain ⟨v3, vs3, d3, ds3, p3, q3, rfl, rfl, rfl, h3, r3⟩ := trodAll_cons r2
  obtain ⟨v4, vs4, d4, ds4, p4, q4, rfl, rfl, rfl, h4, r4⟩ := trodAll_cons r3
  obtain ⟨rfl, rfl, rfl⟩ := trodAll_nil r4
  obtain rfl : args = #[v0, v1, v2, v3, v4] := by cases args; simp_all
  obtain ⟨rfl, rfl⟩ := trodVars_none hV
  obtain ⟨a0, len0, cap0, z0, rfl, w0⟩ := row_of (hval 0 22 v0 rfl rfl) h0
  obtain ⟨cnt, rfl, rfl, rfl, wc⟩ := open_int Ybaf.underlying5 (hval 1 5 v1 rfl rfl) h1
  obtain ⟨pad, rfl, rfl, rfl⟩ := open_bool Ybaf.underlying4 (hval 2 4 v2 rfl rfl) h2
  obtain ⟨a3, len3, cap3, z3, rfl, w3⟩ := row_of (hval 3 22 v3 rfl rfl) h3
  obtain ⟨bs, rfl, rfl, rfl, wb⟩ := open_int Ybaf.underlying3 (hval 4 3 v4 rfl rfl) h4
  clear hA0 hval0
  obtain ⟨c0, c1⟩ : 0 ≤ cnt ∧ cnt ≤ 255 := by
    have := wc
    simp [Lit.wf, IntKind.min, IntKind.max, IntKind.signed, IntKind.bits] at this
    omega
  have lt0 : ∀ x ∈ p0, x.block < W.heap.size := by obtain ⟨m, hm⟩ := h0; exact DataW.trod_lt m _ _ _ hm
  have lt3 : ∀ x ∈ p3, x.block < W.heap.size := by obtain ⟨m, hm⟩ := h3; exact DataW.trod_lt m _ _ _ hm
  refine (law_all F.told a0 len0 cap0 z0 cnt pad a3 len3 cap3 z3 bs W hF w0 w3 c0 c1).mono fun e W' ⟨he, bel⟩ => ?_
  subst he
  refine ⟨_, rfl, _, _, _, [], p0 ++ ([] ++ ([] ++ (p3 ++ ([] ++ [])))), [], hW', trodAll_mk1 (shut_bool Ybaf.underlying4 _), ?_, rfl, bel.frame _, fun h => by cases h⟩
  exact trodAll_cons_mk (Below.trod laidOut (by kernel_rfl) (of_decide_eq_true (by kernel_rfl)) h0 bel lt0) (trodAll_cons_mk (shut_int Ybaf.underlying5 wc) (trodAll_cons_mk (shut_bool Ybaf.underlying4 pad)
    (trodAll_cons_mk (Below.trod laidOut (by kernel_rfl) (of_decide_eq_true (by kernel_rfl)) h3 bel lt3) (trodAll_cons_mk (shut_int Ybaf.underlying3 wb) trodAll_mk0))))

theorem vector_told : Rows.LawS1770BVectorToldSaid :=
  Claim7.holds_of_told_any 3 Ybaf.f3 _ _ [] _ _ _ (by kernel_rfl) rfl rfl rfl laidOut (by kernel_rfl) rfl ⟨rfl, rfl, rfl, rfl, rfl, rfl, rfl⟩ rfl rfl (by kernel_rfl) (by kernel_rfl) Ybaf.func3 (by kernel_rfl)
    (of_decide_eq_true (by kernel_rfl)) (of_decide_eq_true (by kernel_rfl)) stops.symm rfl stopKnobs.symm (by kernel_rfl)
    (by kernel_rfl) (by kernel_rfl) (by kernel_rfl) (by kernel_rfl) (by kernel_rfl) (by kernel_rfl) (by kernel_rfl) (by kernel_rfl) (by kernel_rfl) rfl (by kernel_rfl) rfl rfl
    rfl rfl
    rfl (by kernel_rfl) (by kernel_rfl) (by kernel_rfl) (by decide) (by kernel_rfl)
    (OpenClaim.moreEntering_of (by kernel_rfl) (by kernel_rfl) (by kernel_rfl) (by kernel_rfl) (by kernel_rfl) (by kernel_rfl) (by kernel_rfl) (by kernel_rfl) (by kernel_rfl) (by kernel_rfl))
    ⟨_, WideRow.started_initial, quiet _⟩
    (fun os started _ H enc _ => lifted os started H enc)
#print axioms vector_told
end Go.Proofs.YbulkajqcFmt
