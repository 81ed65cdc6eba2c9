import Derived.Test.YbulkajnySt
import Derived.BigRegion
import Derived.Deep.LoopGhost
import Derived.Deep.DeepCutAuto
namespace Go.Proofs.Ybulkajny
open Go.RowKit Go.Sort

/-- A slice of bytes that reads as l. -/
def Bytes (w : World) (P : Option Addr) (l : List Nat) : Prop := ∀ (j x : Nat), l[j]? = some x → ∃ g o, P = some ⟨g, o, none⟩ ∧ w.cell? ⟨g, o + j, none⟩ = some (.int .u8 (x : Int))
theorem Bytes.only0 {w w' : World} {P : Option Addr} {l : List Nat} (h : Bytes w P l) (ho : Only (fun _ => False) w w') : Bytes w' P l := fun j x hj => by
  obtain ⟨g, o, rfl, hc⟩ := h j x hj
  exact ⟨g, o, rfl, (ho.cell (p := ⟨g, o + j, none⟩) (World.block_lt_of_cell? w _ hc) (fun hf => hf)).trans hc⟩

/-- The law's argument: n transactions, with what they read, write, and whether they are out. -/
structure Arg (w : World) (A : Option Addr) (n : Nat) (rv wv : Nat → List Nat) (out : Nat → Bool) : Prop where
  at_ : ∀ i, i < n → ∃ g o rp rc wp wc, A = some ⟨g, o, none⟩ ∧ w.cell? ⟨g, o + i * 3, none⟩ = some (.slice rp (rv i).length rc) ∧ w.cell? ⟨g, o + i * 3 + 1, none⟩ = some (.slice wp (wv i).length wc) ∧
    w.cell? ⟨g, o + i * 3 + 2, none⟩ = some (.bool (out i)) ∧ Bytes w rp (rv i) ∧ Bytes w wp (wv i)
theorem Arg.only0 {w w' : World} {A : Option Addr} {n : Nat} {rv wv : Nat → List Nat} {out : Nat → Bool} (h : Arg w A n rv wv out) (ho : Only (fun _ => False) w w') : Arg w' A n rv wv out := ⟨fun i hi => by
  obtain ⟨g, o, rp, rc, wp, wc, rfl, h1, h2, h3, h4, h5⟩ := h.at_ i hi
  have k : ∀ (a : Addr) v, w.cell? a = some v → w'.cell? a = some v := fun a v hv => (ho.cell (p := a) (World.block_lt_of_cell? w _ hv) (fun hf => hf)).trans hv
  exact ⟨g, o, rp, rc, wp, wc, rfl, k _ _ h1, k _ _ h2, k _ _ h3, h4.only0 ho, h5.only0 ho⟩⟩
theorem Arg.fam {w0 w : World} {R : Nat → Row} {E : Option (Nat × Obj)} {A : Option Addr} {n : Nat} {rv wv : Nat → List Nat} {out : Nat → Bool} (h : Arg w0 A n rv wv out) (hf : Fam w0 w R E) : Arg w A n rv wv out := h.only0 ⟨hf.below.os, hf.below.tape, hf.below.output, hf.below.size, fun k hk _ => hf.below.block k hk⟩

def OkPost (w : World) (n : Nat) (rv wv : Nat → List Nat) (e : Ending) (w' : World) : Prop := ∃ r, e = .returned (.bool r) ∧ Only (fun _ => False) w w' ∧ (r = true → n ≤ 64 ∧ ∀ i, i < n → (rv i).length ≤ 256 ∧ (wv i).length ≤ 256)
set_option maxRecDepth 100000 in
set_option maxHeartbeats 1600000 in
theorem ok_any {w : World} {A : Option Addr} {n q : Nat} {rv wv : Nat → List Nat} {out : Nat → Bool} (h : Arg w A n rv wv out) :
    Calls Yba.prog 13 #[.slice A n q] w (OkPost w n rv wv) := by
  by_cases hn : n ≤ 64
  · have n1 : ¬ (64 : Int) < (n : Int) := by omega
    have H : Hid _ := h
    clear h
    go_enter Yba.func13, Yba.ntmps13
    go_wp2_with fail
    go_loopg [10] n (fun q s10 wx => ∃ j : Nat, s10 = .int .i64 j ∧ j ≤ n ∧ n - j ≤ q ∧ Only (fun _ => False) w wx ∧ ∀ i, i < j → (rv i).length ≤ 256 ∧ (wv i).length ≤ 256)
    case atStart => exact ⟨0, rfl, Nat.zero_le _, Nat.le_refl _, Only.refl _ _, fun i hi => absurd hi (Nat.not_lt_zero _)⟩
    case round =>
      obtain ⟨j, rfl, hjl, hjq, ho, hgood⟩ := hrel
      have HO : Hid _ := ho
      by_cases hj : j < n
      · obtain ⟨g, o, rp, rc, wp, wc, rfl, c1, c2, c3, _, _⟩ := (Arg.only0 H.out ho).at_ j hj
        have j1 : (j : Int) < (n : Int) := by omega
        clear ho
        generalize hL1 : (rv j).length = L1 at *
        generalize hL2 : (wv j).length = L2 at *
        have HG : Hid _ := hgood
        clear hgood
        by_cases g1 : L1 ≤ 256
        · have d1 : decide ((256 : Int) < (L1 : Int)) = false := by simp; omega
          by_cases g2 : L2 ≤ 256
          · have d2 : ¬ (256 : Int) < (L2 : Int) := by omega
            go_wp2_with fail
            go_roundg (n - (j + 1))
            case measure => omega
            case rel => exact ⟨j + 1, by go_num, by omega, by omega, Only.trans HO.out (only_alloc _ _), fun i hi => by
                by_cases e : i = j
                · subst e; rw [hL1, hL2]; exact ⟨g1, g2⟩
                · exact HG.out i (by omega)⟩
          · have d2 : (256 : Int) < (L2 : Int) := by omega
            go_wp2_with fail
            go_ret
            exact ⟨false, rfl, Only.trans HO.out (only_alloc _ _), fun e => by cases e⟩
        · have d1 : (256 : Int) < (L1 : Int) := by omega
          go_wp2_with fail
          go_ret
          exact ⟨false, rfl, Only.trans HO.out (only_alloc _ _), fun e => by cases e⟩
      · obtain rfl : j = n := by omega
        have j1 : ¬ (j : Int) < (j : Int) := by omega
        clear ho
        have HG : Hid _ := hgood
        clear hgood
        go_wp2_with fail
        go_ret
        exact ⟨true, rfl, HO.out, fun _ => ⟨hn, HG.out⟩⟩
  · have n1 : (64 : Int) < (n : Int) := by omega
    clear h
    go_enter Yba.func13, Yba.ntmps13
    go_wp2_with fail
    go_ret
    exact ⟨false, rfl, Only.refl _ _, fun e => by cases e⟩

/-- The key of a byte. -/
def keyS (x : Nat) : ByteArray := if x % 4 = 0 then ⟨#[97]⟩ else if x % 4 = 1 then ⟨#[98]⟩ else if x % 4 = 2 then ⟨#[99]⟩ else ⟨#[100]⟩
theorem key_any (x : Nat) (w : World) (hx : x < 256) : Calls Yba.prog 24 #[.int .u8 (x : Int)] w fun e w' => e = .returned (.string (keyS x)) ∧ w' = w := by
  have hm : (x : Int).tmod 4 = ((x % 4 : Nat) : Int) := by rw [Int.tmod_eq_emod_of_nonneg (by omega)]; omega
  have hlt : x % 4 < 4 := Nat.mod_lt _ (by omega)
  unfold keyS
  generalize x % 4 = y at *
  have hy : y = 0 ∨ y = 1 ∨ y = 2 ∨ y = 3 := by omega
  rcases hy with rfl | rfl | rfl | rfl
  all_goals
    go_enter Yba.func24, Yba.ntmps24
    go_wp2_with fail
    go_ret
    exact ⟨rfl, rfl⟩
end Go.Proofs.Ybulkajny
