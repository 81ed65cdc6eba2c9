import Derived.Test.YbulkajnySt
import Derived.BigRegion
import Derived.Deep.LoopGhost
import Derived.Deep.DeepCutAuto
namespace Go.Proofs.Ybulkajny
open Go.RowKit Go.Sort

/-- A slice of int32 that reads as l. -/
def Reads (w : World) (P : Option Addr) (l : List Nat) : Prop := ∀ j x, l[j]? = some x → ∃ g, P = some ⟨g, 0, none⟩ ∧ w.cell? ⟨g, j, none⟩ = some (i32 x)
theorem Reads.only0 {w w' : World} {P : Option Addr} {l : List Nat} (h : Reads w P l) (ho : Only (fun _ => False) w w') : Reads w' P l := fun j x hj => by
  obtain ⟨g, rfl, hc⟩ := h j x hj
  exact ⟨g, rfl, (ho.cell (p := ⟨g, j, none⟩) (World.block_lt_of_cell? w _ hc) (fun hf => hf)).trans hc⟩

set_option maxRecDepth 100000 in
set_option maxHeartbeats 1600000 in
theorem equal_any {w : World} {P P' : Option Addr} {q q' : Nat} {l : List Nat} (h1 : Reads w P l) (h2 : Reads w P' l) (hl : l.length ≤ 100000) :
    Calls Yba.prog 19 #[.slice P l.length q, .slice P' l.length q'] w fun e w' => e = .returned (.bool true) ∧ Only (fun _ => False) w w' := by
  have hll : (((l.length : Nat) : Int) != ((l.length : Nat) : Int)) = false := by simp
  have H1 : Hid (Reads w P l) := h1
  have H2 : Hid (Reads w P' l) := h2
  clear h1 h2
  go_enter Yba.func19, Yba.ntmps19
  go_wp2_with fail
  go_loopg [13] l.length (fun q s13 wx => ∃ j : Nat, s13 = .int .i64 j ∧ j ≤ l.length ∧ l.length - j ≤ q ∧ Only (fun _ => False) w wx)
  case atStart => exact ⟨0, rfl, Nat.zero_le _, Nat.le_refl _, Only.refl _ _⟩
  case round =>
    obtain ⟨j, rfl, hjl, hjq, ho⟩ := hrel
    have HO : Hid _ := ho
    by_cases hj : j < l.length
    · obtain ⟨x, hx⟩ : ∃ x, l[j]? = some x := ⟨l[j], List.getElem?_eq_getElem hj⟩
      obtain ⟨g, rfl, c1⟩ := (H1.out.only0 ho) j x hx
      obtain ⟨g', rfl, c2⟩ := (H2.out.only0 ho) j x hx
      have j1 : (j : Int) < (l.length : Int) := by omega
      have hxx : (((x : Nat) : Int) != ((x : Nat) : Int)) = false := by simp
      clear ho
      go_wp2_with fail
      go_region
      go_wp2_with fail
      go_roundg (l.length - (j + 1))
      case measure => omega
      case rel => exact ⟨j + 1, by go_num, by omega, by omega, Only.trans HO.out (only_drew _)⟩
    · obtain rfl : j = l.length := by omega
      have j1 : ¬ (l.length : Int) < (l.length : Int) := by omega
      clear ho
      go_wp2_with fail
      go_ret
      exact ⟨rfl, HO.out⟩

theorem equal18 {w : World} {P P' : Option Addr} {q q' : Nat} {l : List Nat} (h1 : Reads w P l) (h2 : Reads w P' l) (hl : l.length ≤ 100000) :
    Calls Yba.prog 18 #[.slice P l.length q, .slice P' l.length q'] w fun e w' => e = .returned (.bool true) ∧ Only (fun _ => False) w w' := by
  have HE : Hid _ := equal_any (q := q) (q' := q') h1 h2 hl
  go_enter Yba.func18, Yba.ntmps18
  go_wp2_with fail
  refine Calls.mono HE.out ?_
  rintro e w1 ⟨rfl, ho⟩
  have HO : Hid _ := ho
  clear ho
  go_wp2_with fail
  go_ret
  exact ⟨rfl, HO.out⟩

/-- A slice of slices that reads as ls. -/
def Reads2 (w : World) (P : Option Addr) (ls : List (List Nat)) : Prop := ∀ j l, ls[j]? = some l → l.length ≤ 100000 ∧ ∃ g p q, P = some ⟨g, 0, none⟩ ∧ w.cell? ⟨g, j, none⟩ = some (.slice p l.length q) ∧ Reads w p l
theorem Reads2.only0 {w w' : World} {P : Option Addr} {l : List (List Nat)} (h : Reads2 w P l) (ho : Only (fun _ => False) w w') : Reads2 w' P l := fun j x hj => by
  obtain ⟨hx, g, p, q, rfl, hc, hr⟩ := h j x hj
  exact ⟨hx, g, p, q, rfl, (ho.cell (p := ⟨g, j, none⟩) (World.block_lt_of_cell? w _ hc) (fun hf => hf)).trans hc, hr.only0 ho⟩

set_option maxRecDepth 100000 in
set_option maxHeartbeats 1600000 in
theorem equalFunc_any {w : World} {P P' : Option Addr} {q q' : Nat} {ls : List (List Nat)} (h1 : Reads2 w P ls) (h2 : Reads2 w P' ls) (hl : ls.length ≤ 100000) :
    Calls Yba.prog 17 #[.slice P ls.length q, .slice P' ls.length q', .func (.func 18) #[] #[]] w fun e w' => e = .returned (.bool true) ∧ Only (fun _ => False) w w' := by
  have hll : (((ls.length : Nat) : Int) != ((ls.length : Nat) : Int)) = false := by simp
  have H1 : Hid (Reads2 w P ls) := h1
  have H2 : Hid (Reads2 w P' ls) := h2
  clear h1 h2
  go_enter Yba.func17, Yba.ntmps17
  go_wp2_with fail
  go_loopg [17] ls.length (fun q s17 wx => ∃ j : Nat, s17 = .int .i64 j ∧ j ≤ ls.length ∧ ls.length - j ≤ q ∧ Only (fun _ => False) w wx)
  case atStart => exact ⟨0, rfl, Nat.zero_le _, Nat.le_refl _, Only.refl _ _⟩
  case round =>
    obtain ⟨j, rfl, hjl, hjq, ho⟩ := hrel
    have HO : Hid _ := ho
    by_cases hj : j < ls.length
    · obtain ⟨x, hx⟩ : ∃ x, ls[j]? = some x := ⟨ls[j], List.getElem?_eq_getElem hj⟩
      obtain ⟨hxl, g, p, q1, rfl, c1, r1⟩ := (H1.out.only0 ho) j x hx
      obtain ⟨_, g', p', q2, rfl, c2, r2⟩ := (H2.out.only0 ho) j x hx
      have j1 : (j : Int) < (ls.length : Int) := by omega
      have HE : Hid _ := equal18 (q := q1) (q' := q2) r1 r2 hxl
      clear ho r1 r2
      go_wp2_with fail
      refine Calls.mono HE.out ?_
      rintro e w1 ⟨rfl, ho1⟩
      have HO1 : Hid _ := ho1
      clear ho1 HE
      go_wp2_with fail
      go_roundg (ls.length - (j + 1))
      case measure => omega
      case rel => exact ⟨j + 1, by go_num, by omega, by omega, Only.trans HO.out HO1.out⟩
    · obtain rfl : j = ls.length := by omega
      have j1 : ¬ (ls.length : Int) < (ls.length : Int) := by omega
      clear ho
      go_wp2_with fail
      go_ret
      exact ⟨rfl, HO.out⟩
end Go.Proofs.Ybulkajny
