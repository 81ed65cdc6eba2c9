import Derived.Test.YbulkajnyRc
import Derived.Deep.Slices
import Derived.Deep.Strs
import Derived.WalkKit
import Derived.ProofKit
import Derived.OpenShut
import Derived.ChangeOld
import Derived.Below
namespace Go.Proofs.Ybulkajny
open Go.ChangeShapes Go.WideShapes Go.ChangeAt Go.RowKit Go.Deep

section
variable {H : Type} {enc : TypeId × Value → H} {w : World} {base : Nat} {spare : Nat → Bool} {held : Bool}
theorem cells3 {a : Addr} {cs : List Value} (h : w.cells? base a 3 = some cs) : ∃ c0 c1 c2, cs = [c0, c1, c2] ∧ w.cell? (a.add 0) = some c0 ∧ w.cell? (a.add 1) = some c1 ∧ w.cell? (a.add 2) = some c2 := by
  unfold World.cells? at h
  split at h
  · have e : List.range 3 = [0, 1, 2] := rfl
    rw [e] at h
    simp only [List.mapM_cons, List.mapM_nil, Option.bind_eq_bind, Option.bind_eq_some_iff, Option.pure_def] at h
    obtain ⟨c0, h0, r0, ⟨c1, h1, r1, ⟨c2, h2, r2, hr2, e2⟩, e1⟩, e0⟩ := h
    refine ⟨c0, c1, c2, ?_, h0, h1, h2⟩
    simp at hr2 e0 e1 e2
    rw [← e0, ← e1, ← e2, hr2]
  · cases h
theorem open_bytes {fuel : Nat} {v : Value} {x : DataW H × List MemPlace} (h : DataW.trod enc Yba.prog w base spare held fuel 39 [v] = some x) : ∃ P l c, v = .slice P (List.length l) c ∧ Bytes w P l ∧ ∀ y, y ∈ l → y < 256 := by
  rcases open_ints Yba.underlying39 Yba.underlying5 (by kernel_rfl) h with ⟨hcs, _⟩ | ⟨a, len, cap, zs, hcs, _, hl, hm, hz, _, hcell, hwf⟩
  · simp at hcs
    exact ⟨none, [], 0, hcs, fun j x hj => (by cases hj), fun y hy => (by cases hy)⟩
  · simp at hcs
    have hlen : len ≤ zs.length := by rw [hz]; split <;> omega
    have hwf' : ∀ n, n ∈ zs → 0 ≤ n ∧ n ≤ 255 := fun n hn => by
      have := hwf n hn
      simp [Lit.wf, IntKind.min, IntKind.max, IntKind.signed, IntKind.bits] at this
      omega
    refine ⟨some a, (zs.take len).map Int.toNat, cap, ?_, fun j x hj => ?_, fun y hy => ?_⟩
    · rw [hcs]; simp [hlen]
    · rw [List.getElem?_map, Option.map_eq_some_iff] at hj
      obtain ⟨z, hj, rfl⟩ := hj
      rw [List.getElem?_take] at hj
      split at hj
      · have hjz := (List.getElem?_eq_some_iff.1 hj).1
        have hc := hcell j hjz
        have hzz : zs.getD j 0 = z := by rw [List.getD_eq_getElem?_getD, hj]; rfl
        rw [hzz] at hc
        obtain ⟨g, o, sp⟩ := a
        have hsp : sp = none := by simpa [Addr.add] using World.cell?_spot (hcell 0 (by omega))
        subst hsp
        rw [add_plain] at hc
        have := hwf' z (List.mem_of_getElem? hj)
        refine ⟨g, o, rfl, ?_⟩
        rw [hc, Int.toNat_of_nonneg this.1]
      · cases hj
    · obtain ⟨z, hz', rfl⟩ := List.mem_map.1 hy
      have := hwf' z (List.mem_of_mem_take hz')
      omega
set_option maxRecDepth 100000 in
theorem open_arg {fuel : Nat} {A : Option Addr} {n q : Nat} {x : DataW H × List MemPlace} (h : DataW.trod enc Yba.prog w base spare held fuel 33 [.slice A n q] = some x) :
    ∃ rv wv out, Arg w A n rv wv out ∧ ∀ i, i < n → (∀ x, x ∈ rv i → x < 256) ∧ (∀ x, x ∈ wv i → x < 256) := by
  rcases open_slice Yba.underlying33 h with ⟨hcs, _⟩ | ⟨a, len, cap, m, fl, D, Pl, hcs, _, hl, _, hm, _, hel⟩
  · simp at hcs
    obtain ⟨rfl, rfl, rfl⟩ := hcs
    exact ⟨fun _ => [], fun _ => [], fun _ => false, ⟨fun i hi => absurd hi (Nat.not_lt_zero _)⟩, fun i hi => absurd hi (Nat.not_lt_zero _)⟩
  · simp at hcs
    obtain ⟨rfl, rfl, rfl⟩ := hcs
    have hnm : n ≤ m := by rw [hm]; split <;> omega
    have hc41 : Yba.prog.cellsOf 41 = 3 := by kernel_rfl
    have hc39 : Yba.prog.cellsOf 39 = 1 := by kernel_rfl
    have hc4 : Yba.prog.cellsOf 4 = 1 := by kernel_rfl
    have hspot : 0 < n → ∃ g o, a = ⟨g, o, none⟩ := fun h0 => by
      obtain ⟨cs, hcells, _⟩ := hel 0 (by omega)
      rw [hc41] at hcells
      obtain ⟨c0, c1, c2, _, k0, _, _⟩ := cells3 hcells
      have := World.cell?_spot k0
      obtain ⟨g, o, sp⟩ := a
      have hsp : sp = none := by simpa [Addr.add] using this
      exact ⟨g, o, by rw [hsp]⟩
    have each : ∀ i, i < n → ∃ y : List Nat × List Nat × Bool, ∃ g o rp rc wp wc, some a = some (⟨g, o, none⟩ : Addr) ∧ w.cell? ⟨g, o + i * 3, none⟩ = some (.slice rp y.1.length rc) ∧ w.cell? ⟨g, o + i * 3 + 1, none⟩ = some (.slice wp y.2.1.length wc) ∧
        w.cell? ⟨g, o + i * 3 + 2, none⟩ = some (.bool y.2.2) ∧ Bytes w rp y.1 ∧ Bytes w wp y.2.1 ∧ (∀ x, x ∈ y.1 → x < 256) ∧ (∀ x, x ∈ y.2.1 → x < 256) := fun i hi => by
      obtain ⟨cs, hcells, htr⟩ := hel i (by omega)
      rw [hc41] at hcells
      obtain ⟨c0, c1, c2, rfl, k0, k1, k2⟩ := cells3 hcells
      obtain ⟨y0, y1, y2, f2, _, _, t0, t1, t2⟩ := trod_struct3 Yba.underlying41 htr
      simp only [hc39, hc4] at t0 t1 t2
      have t0 : DataW.trod enc Yba.prog w base spare held f2 39 [c0] = some y0 := t0
      have t1 : DataW.trod enc Yba.prog w base spare held f2 39 [c1] = some y1 := t1
      have t2 : DataW.trod enc Yba.prog w base spare held f2 4 [c2] = some y2 := t2
      obtain ⟨rp, rl, rc, rfl, br, ur⟩ := open_bytes t0
      obtain ⟨wp, wl, wc, rfl, bw, uw⟩ := open_bytes t1
      obtain ⟨bo, hbo, _⟩ := DataW.trod_bool Yba.underlying4 t2
      simp at hbo
      subst hbo
      obtain ⟨g, o, rfl⟩ := hspot (by omega)
      rw [add_plain, add_plain] at k0 k1 k2
      exact ⟨(rl, wl, bo), g, o, rp, rc, wp, wc, rfl, k0, k1, k2, br, bw, ur, uw⟩
    obtain ⟨f, hf⟩ := choose_lt each
    refine ⟨fun i => (f i).1, fun i => (f i).2.1, fun i => (f i).2.2, ⟨fun i hi => ?_⟩, fun i hi => ?_⟩
    · obtain ⟨g, o, rp, rc, wp, wc, e, k0, k1, k2, br, bw, _, _⟩ := hf i hi
      exact ⟨g, o, rp, rc, wp, wc, e, k0, k1, k2, br, bw⟩
    · obtain ⟨g, o, rp, rc, wp, wc, e, k0, k1, k2, br, bw, u1, u2⟩ := hf i hi
      exact ⟨u1, u2⟩
end
end Go.Proofs.Ybulkajny
