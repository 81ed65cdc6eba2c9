import Derived.Test.YbulkajqcFmtErr
import Derived.Test.YbulkajqcFmtMem
import Derived.Deep.QuietTactic
import Derived.BigQuiet
import Derived.Laws.Pointers
namespace Go.Proofs.YbulkajqcFmt
open Go.RowKit Go.Sort Go.Extern.Stop Go.Stop Go.Extern

abbrev e8 : Int → Value := Value.int .u8

/-- The reader in block R over the bytes of block G. -/
structure Rd (R G cap : Nat) (bs : Array Int) (pos : Nat) (base : Int) (w : World) : Prop where
  blk : w.heap[R]? = some (.cells #[.slice (some ⟨G, 0, none⟩) bs.size cap, .int .i64 pos, .int .i64 base] 26 (0, 0))
  row : RowAt e8 5 w G cap bs
  ne : R ≠ G

namespace Rd
variable {R G cap : Nat} {bs : Array Int} {pos : Nat} {base : Int} {w : World}
theorem c0 (h : Rd R G cap bs pos base w) : w.cell? ⟨R, 0, none⟩ = some (.slice (some ⟨G, 0, none⟩) bs.size cap) := by simp [World.cell?, h.blk]
theorem c1 (h : Rd R G cap bs pos base w) : w.cell? ⟨R, 1, none⟩ = some (.int .i64 pos) := by simp [World.cell?, h.blk]
theorem c2 (h : Rd R G cap bs pos base w) : w.cell? ⟨R, 2, none⟩ = some (.int .i64 base) := by simp [World.cell?, h.blk]
theorem f1 (h : Rd R G cap bs pos base w) : w.frozen? ⟨R, 1, none⟩ = false := by simp [World.frozen?, h.blk]
theorem lt (h : Rd R G cap bs pos base w) : R < w.heap.size := (Array.getElem?_eq_some_iff.1 h.blk).1
theorem only {w' : World} {S : Nat → Prop} (h : Rd R G cap bs pos base w) (ho : Only S w w') (h1 : ¬ S R) (h2 : ¬ S G) : Rd R G cap bs pos base w' :=
  ⟨ho.at_block h.blk h1, h.row.only ho h2, h.ne⟩
theorem set (h : Rd R G cap bs pos base w) (p : Nat) : Rd R G cap bs p base (w.setCell ⟨R, 1, none⟩ (.int .i64 p)) := by
  refine ⟨?_, h.row.only (only_setCell w _ _) (fun hh => h.ne hh.symm), h.ne⟩
  simp only [World.setCell, Array.getElem?_modify]
  simp [h.blk]
end Rd

theorem offset_any (R G cap : Nat) (bs : Array Int) (pos : Nat) (base : Int) (w : World) (h : Rd R G cap bs pos base w) :
    Calls Ybaf.prog 9 #[.pointer (some ⟨R, 0, none⟩)] w fun e w' => (∃ o, e = .returned (.int .i64 o)) ∧ ∃ q, w' = w.drewN q := by
  have h0 := h.c1
  have h2 := h.c2
  clear h
  go_enter Ybaf.func9, Ybaf.ntmps9
  go_wp2
  go_quiet (fail)
  go_wp2
  go_ret
  exact ⟨⟨_, rfl⟩, _, rfl⟩

theorem done_any (R G cap : Nat) (bs : Array Int) (n : Nat) (hn : bs.size = n) (pos : Nat) (base : Int) (w : World) (h : Rd R G cap bs pos base w) :
    Calls Ybaf.prog 16 #[.pointer (some ⟨R, 0, none⟩)] w fun e w' => e = .returned (.bool ((pos : Int) == (n : Int))) ∧ ∃ q, w' = w.drewN q := by
  have h0 := h.c0
  have h1 := h.c1
  rw [hn] at h0
  clear h
  go_enter Ybaf.func16, Ybaf.ntmps16
  go_wp2
  go_quiet (fail)
  go_wp2
  go_ret
  exact ⟨rfl, _, rfl⟩

theorem peek_any (R G cap : Nat) (bs : Array Int) (pos : Nat) (base : Int) (w : World) (h : Rd R G cap bs pos base w) (hp : pos < bs.size) :
    Calls Ybaf.prog 13 #[.pointer (some ⟨R, 0, none⟩)] w fun e w' => e = .returned (.tuple #[.int .u8 bs[pos]!, .nilIface]) ∧ ∃ q, w' = w.drewN q := by
  have h0 := h.c0
  have h1 := h.c1
  have hb := (h.row.cells pos hp).1
  have hne : ((pos : Int) == (bs.size : Int)) = false := beq_eq_false_iff_ne.2 (by omega)
  have i1 : (pos : Int) < (bs.size : Int) := by omega
  have HH : Hid (Rd R G cap bs pos base w) := h
  generalize bs[pos]! = x at *
  generalize hn : bs.size = n at *
  have HN : Hid (bs.size = n) := hn
  clear h hn
  go_enter Ybaf.func13, Ybaf.ntmps13
  go_wp2_with fail
  refine (done_any R G cap bs n HN.out pos base w HH.out).mono ?_
  rintro e w1 ⟨rfl, q, rfl⟩
  have h0' : (w.drewN q).cell? ⟨R, 0, none⟩ = some (.slice (some ⟨G, 0, none⟩) n cap) := h0
  have h1' : (w.drewN q).cell? ⟨R, 1, none⟩ = some (.int .i64 pos) := h1
  have hb' : (w.drewN q).cell? ⟨G, pos, none⟩ = some (.int .u8 x) := hb
  have HW : Hid (∀ m, (w.drewN q).drewN m = w.drewN (q + m)) := fun m => by simp
  clear h0 h1 hb
  generalize w.drewN q = w1 at *
  go_wp2
  go_quiet (fail)
  go_wp2
  go_ret2
  exact ⟨rfl, _, HW.out _⟩

theorem byte_any (R G cap : Nat) (bs : Array Int) (pos : Nat) (base : Int) (w : World) (h : Rd R G cap bs pos base w) (hp : pos < bs.size) (hb : bs.size ≤ 1000000) (x : Int) (hx : bs[pos]! = x) :
    Calls Ybaf.prog 10 #[.pointer (some ⟨R, 0, none⟩)] w fun e w' => e = .returned (.tuple #[.int .u8 x, .nilIface]) ∧ Rd R G cap bs (pos + 1) base w' ∧ Only (fun k => k = R) w w' := by
  have HH : Hid (Rd R G cap bs pos base w) := h
  have HX : Hid (bs[pos]! = x) := hx
  clear hx
  go_enter Ybaf.func10, Ybaf.ntmps10
  go_wp2_with fail
  refine (peek_any R G cap bs pos base w HH.out hp).mono ?_
  rintro e w1 ⟨rfl, q, hw1⟩
  rw [HX.out]
  have h1 : Rd R G cap bs pos base w1 := by rw [hw1]; exact ⟨HH.out.blk, HH.out.row, HH.out.ne⟩
  have o1 : Only (fun k => k = R) w w1 := by rw [hw1]; exact (only_drewN w q).mono (fun _ _ hf => hf.elim)
  have cc := h1.c1
  have ff := h1.f1
  have H1 : Hid (Rd R G cap bs (pos + 1) base (w1.setCell ⟨R, 1, none⟩ (.int .i64 ((pos : Int) + 1)))) := by
    have := h1.set (pos + 1); push_cast at this; exact this
  have O1 : Hid (Only (fun k => k = R) w (w1.setCell ⟨R, 1, none⟩ (.int .i64 ((pos : Int) + 1)))) := o1.step (only_setCell w1 _ _) (fun _ _ hk => hk)
  clear hw1 h1 o1 h
  go_wp2
  go_ret2
  exact ⟨rfl, H1.out, O1.out⟩

theorem and127 (n : Nat) (h : n < 128) : bits .and .u8 (n : Int) 127 = (n : Int) ∧ bits .and .u8 (n : Int) 128 = 0 ∧ bits .or .u64 0 (n : Int) = (n : Int) ∧ bits .or .u64 (n : Int) 0 = (n : Int) ∧
    bits .or .u8 (n : Int) 128 = (n : Int) + 128 ∧ bits .and .u8 ((n : Int) + 128) 128 = 128 ∧ bits .and .u8 ((n : Int) + 128) 127 = (n : Int) := by
  have H : ∀ m : Fin 128, bits .and .u8 (m.val : Int) 127 = (m.val : Int) ∧ bits .and .u8 (m.val : Int) 128 = 0 ∧ bits .or .u64 0 (m.val : Int) = (m.val : Int) ∧ bits .or .u64 (m.val : Int) 0 = (m.val : Int) ∧
    bits .or .u8 (m.val : Int) 128 = (m.val : Int) + 128 ∧ bits .and .u8 ((m.val : Int) + 128) 128 = 128 ∧ bits .and .u8 ((m.val : Int) + 128) 127 = (m.val : Int) := by decide +kernel
  exact H ⟨n, h⟩

set_option maxRecDepth 100000 in
set_option maxHeartbeats 800000 in
/-- One byte below 128. -/
theorem leb_one (R G cap : Nat) (bs : Array Int) (pos : Nat) (base : Int) (w : World) (h : Rd R G cap bs pos base w) (hp : pos < bs.size) (hb : bs.size ≤ 1000000) (n : Nat) (hn : n < 128) (hx : bs[pos]! = (n : Int)) :
    Calls Ybaf.prog 12 #[.pointer (some ⟨R, 0, none⟩), .int .u64 32, .bool false] w fun e w' => e = .returned (.tuple #[.int .u64 n, .nilIface]) ∧ Rd R G cap bs (pos + 1) base w' ∧ Only (fun k => k = R) w w' := by
  have HH : Hid (Rd R G cap bs pos base w) := h
  have HX : Hid (bs[pos]! = (n : Int)) := hx
  obtain ⟨a1, a2, a3, a4, a5, a6, a7⟩ := and127 n hn
  clear hx h
  go_enter Ybaf.func12, Ybaf.ntmps12
  go_wp2_with fail
  refine wp_loop_rounds 1 ?_
  rw [rounds_succ]
  go_wp2_with fail
  refine (byte_any R G cap bs pos base w HH.out hp hb n HX.out).mono ?_
  rintro e w1 ⟨rfl, h1, o1⟩
  have H1 : Hid (Rd R G cap bs (pos + 1) base w1) := h1
  have O1 : Hid (Only (fun k => k = R) w w1) := o1
  clear h1 o1
  go_wp2_with fail
  go_ret2
  exact ⟨rfl, H1.out, O1.out⟩

set_option maxRecDepth 100000 in
set_option maxHeartbeats 1600000 in
/-- The same number in two bytes. -/
theorem leb_two (R G cap : Nat) (bs : Array Int) (pos : Nat) (base : Int) (w : World) (h : Rd R G cap bs pos base w) (hp : pos + 1 < bs.size) (hb : bs.size ≤ 1000000) (n : Nat) (hn : n < 128) (hx : bs[pos]! = (n : Int) + 128) (hy : bs[pos + 1]! = 0) :
    Calls Ybaf.prog 12 #[.pointer (some ⟨R, 0, none⟩), .int .u64 32, .bool false] w fun e w' => e = .returned (.tuple #[.int .u64 n, .nilIface]) ∧ Rd R G cap bs (pos + 2) base w' ∧ Only (fun k => k = R) w w' := by
  have HH : Hid (Rd R G cap bs pos base w) := h
  have HX : Hid (bs[pos]! = (n : Int) + 128) := hx
  have HY : Hid (bs[pos + 1]! = 0) := hy
  obtain ⟨a1, a2, a3, a4, a5, a6, a7⟩ := and127 n hn
  have b0 : bits .and .u8 (0 : Int) 127 = 0 := by decide +kernel
  clear hx hy h
  go_enter Ybaf.func12, Ybaf.ntmps12
  go_wp2_with fail
  refine wp_loop_rounds 2 ?_
  rw [rounds_succ]
  go_wp2_with fail
  refine (byte_any R G cap bs pos base w HH.out (by omega) hb _ HX.out).mono ?_
  rintro e w1 ⟨rfl, h1, o1⟩
  have H1 : Hid (Rd R G cap bs (pos + 1) base w1) := h1
  have O1 : Hid (Only (fun k => k = R) w w1) := o1
  clear h1 o1
  go_wp2_with fail
  rw [rounds_succ]
  go_wp2_with fail
  refine (byte_any R G cap bs (pos + 1) base w1 H1.out hp hb _ HY.out).mono ?_
  rintro e w2 ⟨rfl, h2, o2⟩
  have H2 : Hid (Rd R G cap bs (pos + 2) base w2) := h2
  have O2 : Hid (Only (fun k => k = R) w w2) := O1.out.trans o2
  clear h2 o2
  go_wp2_with fail
  go_ret2
  exact ⟨rfl, H2.out, O2.out⟩

/-- leb128 and u32, come to their end at place p'. -/
def LebOk (R G cap : Nat) (bs : Array Int) (p' : Nat) (base : Int) (n : Nat) (w : World) : Prop := Calls Ybaf.prog 12 #[.pointer (some ⟨R, 0, none⟩), .int .u64 32, .bool false] w fun e w' => e = .returned (.tuple #[.int .u64 n, .nilIface]) ∧ Rd R G cap bs p' base w' ∧ Only (fun k => k = R) w w'
def U32Ok (R G cap : Nat) (bs : Array Int) (p' : Nat) (base : Int) (n : Nat) (w : World) : Prop := Calls Ybaf.prog 7 #[.pointer (some ⟨R, 0, none⟩)] w fun e w' => e = .returned (.tuple #[.int .u32 n, .nilIface]) ∧ Rd R G cap bs p' base w' ∧ Only (fun k => k = R) w w'

/-- u32, out of what leb128 does. -/
theorem u32_of (R G cap : Nat) (bs : Array Int) (p' : Nat) (base : Int) (w : World) (n : Nat) (hn : n < 128)
    (hl : LebOk R G cap bs p' base n w) :
    U32Ok R G cap bs p' base n w := by
  unfold U32Ok
  go_enter Ybaf.func7, Ybaf.ntmps7
  go_wp2_with fail
  refine Calls.mono hl ?_
  rintro e w1 ⟨rfl, h1, o1⟩
  have H1 : Hid (Rd R G cap bs p' base w1) := h1
  have O1 : Hid (Only (fun k => k = R) w w1) := o1
  clear h1 o1
  go_wp2_with fail
  go_ret2
  exact ⟨rfl, H1.out, O1.out⟩

theorem merrorf_two (F : Interp) (R G cap : Nat) (bs : Array Int) (pos : Nat) (base : Int) (w : World) (h : Rd R G cap bs pos base w) (k : Nat) (x y : Int) (hF : F.answers w.tape)
    (h0 : w.cell? ⟨k, 0, none⟩ = some (.iface 34 (.int .u32 x))) (h1 : w.cell? ⟨k, 1, none⟩ = some (.iface 3 (.int .i64 y))) :
    Calls Ybaf.prog 8 #[.pointer (some ⟨R, 0, none⟩), .string ⟨#[117, 110, 101, 120, 112, 101, 99, 116, 101, 100, 32, 101, 110, 100, 58, 32, 37, 100, 32, 101, 108, 101, 109, 101, 110, 116, 115, 32, 119, 97, 110, 116, 101, 100, 44, 32, 37, 100, 32, 98, 121, 116, 101, 115, 32, 108, 101, 102, 116]⟩, .slice (some ⟨k, 0, none⟩) 2 2] w fun e w' => (∃ a, e = .returned (.iface 53 (.pointer (some a)))) ∧ Below w.heap.size w w' := by
  go_enter Ybaf.func8, Ybaf.ntmps8
  go_wp2_with fail
  refine (offset_any R G cap bs pos base w h).mono ?_
  rintro e w1 ⟨⟨o, rfl⟩, q, rfl⟩
  go_wp2_with fail
  refine (errorf_two F o k x y (w.drewN q) hF h0 h1).mono ?_
  rintro e w2 ⟨⟨a, rfl⟩, hb⟩
  go_wp2_with fail
  go_ret
  exact ⟨⟨a, rfl⟩, (only_drewN w q).below (Nat.le_refl _) (fun _ _ hf => hf.elim) |>.trans hb⟩

set_option maxRecDepth 100000 in
set_option maxHeartbeats 800000 in
theorem count_ok (R G cap : Nat) (bs : Array Int) (p' : Nat) (base : Int) (w : World) (n : Nat) (hn : n < 128) (hp : p' ≤ bs.size) (hb : bs.size ≤ 1000000) (hle : n ≤ bs.size - p')
    (hl : U32Ok R G cap bs p' base n w) :
    Calls Ybaf.prog 5 #[.pointer (some ⟨R, 0, none⟩)] w fun e w' => e = .returned (.tuple #[.int .u32 n, .nilIface]) ∧ Rd R G cap bs p' base w' ∧ Only (fun k => k = R) w w' := by
  go_enter Ybaf.func5, Ybaf.ntmps5
  go_wp2_with fail
  refine Calls.mono hl ?_
  rintro e w1 ⟨rfl, h1, o1⟩
  have hc0 := h1.c0
  have hc1 := h1.c1
  have H1 : Hid (∀ q, Rd R G cap bs p' base (w1.drewN q)) := fun q => ⟨h1.blk, h1.row, h1.ne⟩
  have O1 : Hid (∀ q, Only (fun k => k = R) w (w1.drewN q)) := fun q => o1.step (only_drewN w1 q) (fun _ _ hf => hf.elim)
  clear h1 o1
  go_wp2_with fail
  go_quiet (fail)
  go_wp2_with fail
  go_ret2
  exact ⟨rfl, H1.out _, O1.out _⟩

set_option maxRecDepth 100000 in
set_option maxHeartbeats 800000 in
theorem count_err (F : Interp) (R G cap : Nat) (bs : Array Int) (p' : Nat) (base : Int) (w : World) (hF : F.answers w.tape) (n : Nat) (hn : n < 128) (hp : p' ≤ bs.size) (hb : bs.size ≤ 1000000) (hgt : bs.size - p' < n)
    (hl : U32Ok R G cap bs p' base n w) :
    Calls Ybaf.prog 5 #[.pointer (some ⟨R, 0, none⟩)] w fun e w' => (∃ a, e = .returned (.tuple #[.int .u32 0, .iface 53 (.pointer (some a))])) ∧ Only (fun k => k = R) w w' := by
  have hlt : (bs.size : Int) - (p' : Int) < (n : Int) := by omega
  go_enter Ybaf.func5, Ybaf.ntmps5
  go_wp2_with fail
  refine Calls.mono hl ?_
  rintro e w1 ⟨rfl, h1, o1⟩
  have hc0 := h1.c0
  have hc1 := h1.c1
  have H1 : Hid (∀ q, Rd R G cap bs p' base (w1.drewN q)) := fun q => ⟨h1.blk, h1.row, h1.ne⟩
  have O1 : Hid (∀ q, Only (fun k => k = R) w (w1.drewN q)) := fun q => o1.step (only_drewN w1 q) (fun _ _ hf => hf.elim)
  clear h1 o1 hl
  go_wp2_with fail
  go_quiet (fail)
  have h2 := H1.out nq
  have o2 := O1.out nq
  have HF : Hid (F.answers (w1.drewN nq).tape) := by rw [o2.tape]; exact hF
  clear H1 O1 hc0 hc1
  generalize w1.drewN nq = w2 at *
  have O2 : Hid (Only (fun k => k = R) w w2) := o2
  have H2 : Hid (Rd R G cap bs p' base w2) := h2
  clear o2 h2 hF
  go_wp2_with fail
  refine (merrorf_two F R G cap bs p' base _ (H2.out.only (only_alloc w2 _) (fun hf => hf) (fun hf => hf)) w2.heap.size (n : Int) ((bs.size : Int) - (p' : Int)) HF.out (by simp) (by simp)).mono ?_
  rintro e w3 ⟨⟨a, rfl⟩, hb3⟩
  have O3 : Hid (Only (fun k => k = R) w w3) := by
    refine (O2.out.step (only_alloc w2 _) (fun _ _ hf => hf.elim)).step (T := fun _ => False) ⟨hb3.os, hb3.tape, hb3.output, hb3.size, fun k hk _ => hb3.block k hk⟩ (fun _ _ hf => hf.elim)
  clear hb3
  go_wp2_with fail
  go_ret2
  exact ⟨⟨a, rfl⟩, O3.out⟩

/-- The six value types that can be held. -/
def okT (x : Int) : Bool := x == 127 || x == 126 || x == 125 || x == 124 || x == 112 || x == 111

set_option maxRecDepth 100000 in
set_option maxHeartbeats 800000 in
theorem valueType_ok (R G cap : Nat) (bs : Array Int) (pos : Nat) (base : Int) (w : World) (h : Rd R G cap bs pos base w) (hp : pos < bs.size) (hb : bs.size ≤ 1000000) (x : Int) (hx : bs[pos]! = x) (hk : okT x = true) :
    Calls Ybaf.prog 6 #[.pointer (some ⟨R, 0, none⟩)] w fun e w' => e = .returned (.tuple #[.int .u8 x, .nilIface]) ∧ Rd R G cap bs (pos + 1) base w' ∧ Only (fun k => k = R) w w' := by
  have HX : Hid (bs[pos]! = x) := hx
  have hcs : x = 127 ∨ x = 126 ∨ x = 125 ∨ x = 124 ∨ x = 112 ∨ x = 111 := by simp [okT] at hk; omega
  clear hx hk
  go_enter Ybaf.func6, Ybaf.ntmps6
  go_wp2_with fail
  refine (offset_any R G cap bs pos base w h).mono ?_
  rintro e w1 ⟨⟨o, rfl⟩, q, rfl⟩
  have H1 : Hid (Rd R G cap bs pos base (w.drewN q)) := ⟨h.blk, h.row, h.ne⟩
  clear h
  go_wp2_with fail
  refine (byte_any R G cap bs pos base _ H1.out hp hb x HX.out).mono ?_
  rintro e w2 ⟨rfl, h2, o2⟩
  have H2 : Hid (Rd R G cap bs (pos + 1) base w2) := h2
  have O2 : Hid (Only (fun k => k = R) w w2) := ((only_drewN w q).mono (fun _ _ hf => hf.elim)).trans o2
  clear h2 o2 H1 HX
  rcases hcs with rfl | rfl | rfl | rfl | rfl | rfl
  all_goals
    go_wp2_with fail
    go_ret2
    exact ⟨rfl, H2.out, O2.out⟩

set_option maxRecDepth 100000 in
set_option maxHeartbeats 800000 in
theorem valueType_bad (F : Interp) (R G cap : Nat) (bs : Array Int) (pos : Nat) (base : Int) (w : World) (hF : F.answers w.tape) (h : Rd R G cap bs pos base w) (hp : pos < bs.size) (hb : bs.size ≤ 1000000) (x : Int) (hx : bs[pos]! = x) (hk : x = 123 ∨ x = 0) :
    Calls Ybaf.prog 6 #[.pointer (some ⟨R, 0, none⟩)] w fun e w' => (∃ a, e = .returned (.tuple #[.int .u8 0, .iface 53 (.pointer (some a))])) ∧ Only (fun k => k = R) w w' := by
  have HX : Hid (bs[pos]! = x) := hx
  have hf0 : FmtStop.printed? ⟨#[118, 97, 108, 117, 101, 32, 116, 121, 112, 101, 32, 118, 49, 50, 56, 32, 105, 115, 32, 110, 111, 116, 32, 115, 117, 112, 112, 111, 114, 116, 101, 100, 32, 121, 101, 116]⟩ 0 = some [] := by kernel_rfl
  clear hx
  go_enter Ybaf.func6, Ybaf.ntmps6
  go_wp2_with fail
  refine (offset_any R G cap bs pos base w h).mono ?_
  rintro e w1 ⟨⟨o, rfl⟩, q, rfl⟩
  have H1 : Hid (Rd R G cap bs pos base (w.drewN q)) := ⟨h.blk, h.row, h.ne⟩
  clear h
  go_wp2_with fail
  refine (byte_any R G cap bs pos base _ H1.out hp hb x HX.out).mono ?_
  rintro e w2 ⟨rfl, h2, o2⟩
  have O2 : Hid (Only (fun k => k = R) w w2) := ((only_drewN w q).mono (fun _ _ hf => hf.elim)).trans o2
  have HF : Hid (F.answers w2.tape) := by rw [O2.out.tape]; exact hF
  clear h2 o2 H1 HX hF
  rcases hk with rfl | rfl
  · go_wp2_with fail
    refine (errorf_plain F o _ w2 HF.out hf0).mono ?_
    rintro e w3 ⟨⟨a, rfl⟩, hb3⟩
    have O3 : Hid (Only (fun k => k = R) w w3) := O2.out.step (T := fun _ => False) ⟨hb3.os, hb3.tape, hb3.output, hb3.size, fun k hk _ => hb3.block k hk⟩ (fun _ _ hf => hf.elim)
    clear hb3
    go_wp2_with fail
    go_ret2
    exact ⟨⟨a, rfl⟩, O3.out⟩
  · go_wp2_with fail
    refine (errorf_one F o w2.heap.size 0 (w2.alloc (.cells #[.iface 5 (.int .u8 0)] 20)) HF.out (by simp)).mono ?_
    rintro e w3 ⟨⟨a, rfl⟩, hb3⟩
    have O3 : Hid (Only (fun k => k = R) w w3) := (O2.out.step (only_alloc w2 _) (fun _ _ hf => hf.elim)).step (T := fun _ => False) ⟨hb3.os, hb3.tape, hb3.output, hb3.size, fun k hk _ => hb3.block k hk⟩ (fun _ _ hf => hf.elim)
    clear hb3
    go_wp2_with fail
    go_ret2
    exact ⟨⟨a, rfl⟩, O3.out⟩
end Go.Proofs.YbulkajqcFmt
