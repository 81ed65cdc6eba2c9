import Derived.Test.YbulkajqcFmtWalks
import Derived.Deep.OwnRows
namespace Go.Proofs.YbulkajqcFmt
open Go.RowKit Go.Sort Go.Extern.Stop Go.Stop Go.Extern

theorem info32 : (Ybaf.prog.info? 32).map (fun i => (i.zero, i.size, i.bytes)) = some (some (.int .u8 0), 1, 1) := by kernel_rfl
/-- What 'count' does where all is well. -/
def CountOk (R G cap : Nat) (bs : Array Int) (p' : Nat) (base : Int) (n : Nat) (w : World) : Prop :=
  Calls Ybaf.prog 5 #[.pointer (some ⟨R, 0, none⟩)] w fun e w' => e = .returned (.tuple #[.int .u32 n, .nilIface]) ∧ Rd R G cap bs p' base w' ∧ Only (fun k => k = R) w w'
def CountErr (R : Nat) (w : World) : Prop :=
  Calls Ybaf.prog 5 #[.pointer (some ⟨R, 0, none⟩)] w fun e w' => (∃ a, e = .returned (.tuple #[.int .u32 0, .iface 53 (.pointer (some a))])) ∧ Only (fun k => k = R) w w'

/-- valueTypes behind the count: k types of n are read, from place p on; T is the new row. -/
structure Vt (R G cap : Nat) (bs : Array Int) (p : Nat) (base : Int) (T n k : Nat) (w0 w : World) : Prop where
  rd : Rd R G cap bs (p + k) base w
  row : w.rowIs T 32 n (fun j => .int .u8 (if j < k then bs[p + j]! else 0))
  ne : T ≠ R
  ne2 : T ≠ G
  only : Only (fun i => i = R) w0 w
  ge : w0.heap.size ≤ T

theorem Vt.start {R G cap : Nat} {bs : Array Int} {p : Nat} {base : Int} {n : Nat} {w0 w1 : World} (h : Rd R G cap bs p base w1) (ho : Only (fun i => i = R) w0 w1) :
    Vt R G cap bs p base w1.heap.size n 0 w0 (w1.alloc (.cells (madeCells #[.int .u8 0] n) 32)) := by
  refine ⟨h.only (only_alloc w1 _) (fun hf => hf) (fun hf => hf), (World.rowIs_made w1 (.int .u8 0) n 32).congr (fun j _ => by simp), ?_, ?_, ho.step (only_alloc w1 _) (fun _ _ hf => hf.elim), ho.size⟩
  · have := h.lt; omega
  · have := h.row.lt; omega

theorem Vt.step {R G cap : Nat} {bs : Array Int} {p : Nat} {base : Int} {T n k : Nat} {w0 w w' : World} (h : Vt R G cap bs p base T n k w0 w) (h1 : Rd R G cap bs (p + k + 1) base w') (ho : Only (fun i => i = R) w w') :
    Vt R G cap bs p base T n (k + 1) w0 (w'.setCell ⟨T, k, none⟩ (.int .u8 bs[p + k]!)) := by
  have hT : T < w.heap.size := h.row.lt
  have hr : w'.rowIs T 32 n (fun j => .int .u8 (if j < k then bs[p + j]! else 0)) := h.row.of_block (ho.block T hT h.ne)
  refine ⟨h1.only (only_setCell w' _ _) (fun hh => h.ne hh.symm) (fun hh => h.ne2 hh.symm), (hr.set k _).congr (fun j _ => ?_), h.ne, h.ne2, (h.only.trans ho).step (only_setCell w' _ _) (fun i hi hk => ?_), h.ge⟩
  · by_cases hjk : j = k
    · subst hjk; simp
    · rw [if_neg hjk]
      by_cases hlt : j < k
      · rw [if_pos hlt, if_pos (by omega)]
      · rw [if_neg hlt, if_neg (by omega)]
  · have := h.ge; simp at hk; omega

set_option maxRecDepth 100000 in
set_option maxHeartbeats 800000 in
theorem types_err (R : Nat) (w : World) (hc : CountErr R w) :
    Calls Ybaf.prog 4 #[.pointer (some ⟨R, 0, none⟩)] w fun e w' => (∃ a, e = .returned (.tuple #[.slice none 0 0, .iface 53 (.pointer (some a))])) ∧ Only (fun k => k = R) w w' := by
  go_enter Ybaf.func4, Ybaf.ntmps4
  go_wp2_with fail
  refine Calls.mono hc ?_
  rintro e w1 ⟨⟨a, rfl⟩, o1⟩
  have O1 : Hid (Only (fun k => k = R) w w1) := o1
  clear o1 hc
  go_wp2_with fail
  go_ret2
  exact ⟨⟨a, rfl⟩, O1.out⟩

set_option maxRecDepth 100000 in
set_option maxHeartbeats 1600000 in
theorem types_any (F : Interp) (R G cap : Nat) (bs : Array Int) (p : Nat) (base : Int) (n : Nat) (w : World) (hF : F.answers w.tape) (hn : n < 128) (hp : p + n ≤ bs.size) (hb : bs.size ≤ 1000000)
    (hT : ∀ j, j < n → okT bs[p + j]! = true ∨ bs[p + j]! = 123 ∨ bs[p + j]! = 0) (hc : CountOk R G cap bs p base n w) :
    Calls Ybaf.prog 4 #[.pointer (some ⟨R, 0, none⟩)] w fun e w' =>
      ((∀ j, j < n → okT bs[p + j]! = true) ∧ ∃ T, e = .returned (.tuple #[.slice (some ⟨T, 0, none⟩) n n, .nilIface]) ∧ Vt R G cap bs p base T n n w w') ∨
      ((∃ j, j < n ∧ okT bs[p + j]! = false) ∧ (∃ a, e = .returned (.tuple #[.slice none 0 0, .iface 53 (.pointer (some a))])) ∧ Only (fun k => k = R) w w') := by
  have hmk := run_make_row' (P := Ybaf.prog) 27 32 (.int .u8 0) 1 Ybaf.underlying27 info32 rfl .u32 .u32 n (by omega) (by omega)
  go_enter Ybaf.func4, Ybaf.ntmps4
  go_wp2_with fail
  refine Calls.mono hc ?_
  rintro e w1 ⟨rfl, h1, o1⟩
  have V0 : Hid (Vt R G cap bs p base w1.heap.size n 0 w (w1.alloc (.cells (madeCells #[.int .u8 0] n) 32))) := Vt.start h1 o1
  have HT : Hid (∀ j, j < n → okT bs[p + j]! = true ∨ bs[p + j]! = 123 ∨ bs[p + j]! = 0) := hT
  have HF : Hid (F.answers w.tape) := hF
  clear h1 o1 hc hT hF
  go_wp2_with fail
  generalize w1.heap.size = T at *
  go_loopw [20] (fun i wr => ∃ k : Nat, i = .int .i64 k ∧ k ≤ n ∧ (∀ j, j < k → okT bs[p + j]! = true) ∧ Vt R G cap bs p base T n k w wr) (fun i _ => n - (intOf i).toNat)
  case atStart => exact ⟨0, rfl, Nat.zero_le _, fun j hj => absurd hj (Nat.not_lt_zero _), V0.out⟩
  case round =>
    obtain ⟨k, rfl, hkn, hok, hV⟩ := hrel
    have HOK : Hid (∀ j, j < k → okT bs[p + j]! = true) := hok
    have HV : Hid (Vt R G cap bs p base T n k w wr) := hV
    have HF2 : Hid (F.answers wr.tape) := by rw [hV.only.tape]; exact HF.out
    clear V0 hok hmk hV
    by_cases hk : k < n
    · have i1 : (k : Int) < (n : Int) := by omega
      obtain ⟨x, hx⟩ : ∃ x, bs[p + k]! = x := ⟨_, rfl⟩
      have HX : Hid (bs[p + k]! = x) := hx
      clear hx
      cases hxx : okT x with
      | true =>
        go_wp2_with fail
        refine (valueType_ok R G cap bs (p + k) base wr HV.out.rd (by omega) hb x HX.out hxx).mono ?_
        rintro e w2 ⟨rfl, h2, o2⟩
        have V2 : Hid (Vt R G cap bs p base T n (k + 1) w (w2.setCell ⟨T, k, none⟩ (.int .u8 x))) := by
          have := HV.out.step h2 o2; rw [HX.out] at this; exact this
        have hr : w2.rowIs T 32 n (fun j => .int .u8 (if j < k then bs[p + j]! else 0)) := HV.out.row.of_block (o2.block T HV.out.row.lt HV.out.ne)
        have cT := hr.cell hk
        have fT := hr.frozen k
        simp only [Nat.lt_irrefl, if_false] at cT
        clear hr h2 o2
        go_wp2_with fail
        go_roundw
        case rel =>
          refine ⟨k + 1, by go_num, by omega, fun j hj => ?_, V2.out⟩
          by_cases hjk : j = k
          · subst hjk; rw [HX.out]; exact hxx
          · exact HOK.out j (by omega)
        case measure => simp [intOf]; omega
      | false =>
        have hbad : x = 123 ∨ x = 0 := by
          rcases HT.out k hk with h | h | h
          · rw [HX.out, hxx] at h; cases h
          · left; rw [← HX.out]; exact h
          · right; rw [← HX.out]; exact h
        go_wp2_with fail
        refine (valueType_bad F R G cap bs (p + k) base wr HF2.out HV.out.rd (by omega) hb x HX.out hbad).mono ?_
        rintro e w2 ⟨⟨a, rfl⟩, o2⟩
        have hr : w2.rowIs T 32 n (fun j => .int .u8 (if j < k then bs[p + j]! else 0)) := HV.out.row.of_block (o2.block T HV.out.row.lt HV.out.ne)
        have cT := hr.cell hk
        have fT := hr.frozen k
        simp only [Nat.lt_irrefl, if_false] at cT
        have O2 : Hid (Only (fun i => i = R) w (w2.setCell ⟨T, k, none⟩ (.int .u8 0))) := (HV.out.only.trans o2).step (only_setCell w2 _ _) (fun i hi he => by have := HV.out.ge; simp at he; omega)
        clear hr o2
        go_wp2_with fail
        go_ret2
        exact .inr ⟨⟨k, hk, by rw [HX.out]; exact hxx⟩, ⟨a, rfl⟩, O2.out⟩
    · obtain rfl : k = n := by omega
      go_wp2_with fail
      go_ret2
      exact .inl ⟨HOK.out, T, rfl, HV.out⟩
end Go.Proofs.YbulkajqcFmt
