import Derived.Test.YbulkajnyFmtRows
import Derived.WalkKit
import Derived.Stop.CallBack
import Derived.Stop.IfaceNil
import GoSem.ClaimData
namespace Go.Proofs.YbulkajnyFmt
open Go.RowKit Go.Extern.Stop Go.Stop Go.Extern

theorem call7 (args : Array Value) (w : World) : (callFunc 7 args).run Ybaf.prog w = ((FmtStop.errorf #[9, 28] #[23] args).run Ybaf.prog w).andThen fun v w' => .ok (.value v) w' :=
  run_callFunc_extern Ybaf.func7 (by kernel_rfl) (by kernel_rfl) (by kernel_rfl) (by kernel_rfl) args w
theorem guard7 (name : String) (w : World) : (FmtStop.guard name).run Ybaf.prog w = .ok () w := by kernel_rfl
theorem fmt0 : FmtStop.printed? ⟨#[97, 109, 111, 117, 110, 116, 32, 37, 100, 58, 32, 119, 97, 110, 116, 32, 102, 114, 111, 109, 32, 49, 32, 116, 111, 32, 37, 100]⟩ 2 = some [(0, 100, false), (1, 100, false)] := by kernel_rfl
theorem fmt0r (w : World) : (FmtDoors.printed ⟨#[97, 109, 111, 117, 110, 116, 32, 37, 100, 58, 32, 119, 97, 110, 116, 32, 102, 114, 111, 109, 32, 49, 32, 116, 111, 32, 37, 100]⟩ 2).run Ybaf.prog w = .ok [(0, 100, false), (1, 100, false)] w := by kernel_rfl
def shape2 : List UInt8 := [5, 5, 0, 0, 0, 0, 0, 0, 0, 105, 110, 116, 54, 52]
def shape3 : List UInt8 := [5, 3, 0, 0, 0, 0, 0, 0, 0, 105, 110, 116]
theorem op2 (name : String) (x : Int) (w : World) : (FmtStop.operand name true 100 false (.iface 2 (.int .i64 x))).run Ybaf.prog w = .ok (shape2, Go.Extern.Stop.digits 8 (x % 2 ^ 64).toNat) w := by kernel_rfl
theorem op3 (name : String) (x : Int) (w : World) : (FmtStop.operand name true 100 false (.iface 3 (.int .i64 x))).run Ybaf.prog w = .ok (shape3, Go.Extern.Stop.digits 8 (x % 2 ^ 64).toNat) w := by kernel_rfl
theorem ptr31 (w : World) : (FmtStop.ptrTo "errors.errorString").run Ybaf.prog w = .ok 31 w := by kernel_rfl
theorem elem31 (w : World) : (elemOf 31).run Ybaf.prog w = .ok 33 w := by kernel_rfl
attribute [local go_sem] call7 guard7 fmt0 fmt0r op2 op3 ptr31 elem31

theorem check_bad (F : Interp) (v : Int) (w : World) (hF : F.answers w.tape) (h : v < 1 ∨ 2147483647 < v) :
    Calls Ybaf.prog 5 #[.int .i64 v] w fun e w' => (∃ a, e = .returned (.iface 31 (.pointer (some a)))) ∧ Below w.heap.size w w' := by
  have hF' : ∀ i name reading k range, w.tape i (.extern (word name reading k) range) = F name reading k := hF
  rcases h with h | h
  · go_enter Ybaf.func5, Ybaf.ntmps5
    go_wp2
    go_ret
    exact ⟨⟨_, rfl⟩, (((Below.refl _ _).alloc (Nat.le_refl _) _).alloc (by simp) _).drew⟩
  · have h' : ¬ v < 1 := by omega
    go_enter Ybaf.func5, Ybaf.ntmps5
    go_wp2
    go_ret
    exact ⟨⟨_, rfl⟩, (((Below.refl _ _).alloc (Nat.le_refl _) _).alloc (by simp) _).drew⟩

theorem check_ok (v : Int) (w : World) (h : 1 ≤ v) (h2 : v ≤ 2147483647) :
    Calls Ybaf.prog 5 #[.int .i64 v] w fun e w' => e = .returned .nilIface ∧ w' = w := by
  go_enter Ybaf.func5, Ybaf.ntmps5
  go_wp2
  go_ret
  exact ⟨rfl, rfl⟩

theorem range_any (F : Interp) (v : Int) (w : World) (hF : F.answers w.tape) :
    Calls Ybaf.prog 3 #[.int .i64 v] w fun e w' => e = .returned (.bool true) ∧ Below w.heap.size w w' := by
  by_cases h1 : 1 ≤ v
  · by_cases h2 : v ≤ 2147483647
    · go_enter Ybaf.func3, Ybaf.ntmps3
      go_wp2_with (go_at_call 5; refine (check_ok _ _ h1 h2).mono ?_; rintro e w' ⟨rfl, rfl⟩)
      go_ret
      exact ⟨rfl, Below.refl _ _⟩
    · have hd : decide (v ≤ 2147483647) = false := decide_eq_false h2
      go_enter Ybaf.func3, Ybaf.ntmps3
      go_wp2_with (go_at_call 5; refine (check_bad F _ _ hF (by omega)).mono ?_; rintro e w' ⟨⟨a, rfl⟩, hb⟩)
      go_ret
      exact ⟨rfl, by assumption⟩
  · go_enter Ybaf.func3, Ybaf.ntmps3
    go_wp2_with (go_at_call 5; refine (check_bad F _ _ hF (by omega)).mono ?_; rintro e w' ⟨⟨a, rfl⟩, hb⟩)
    go_ret
    exact ⟨rfl, by assumption⟩

theorem edges_any (F : Interp) (d : Int) (w : World) (hF : F.answers w.tape) (hd0 : 0 ≤ d) (hd : d ≤ 255) :
    Calls Ybaf.prog 4 #[.int .u8 d] w fun e w' => e = .returned (.bool true) ∧ Below w.heap.size w w' := by
  go_enter Ybaf.func4, Ybaf.ntmps4
  go_wp2_with fail
  refine (check_ok _ _ (by omega) (by omega)).mono ?_
  rintro e w' ⟨rfl, rfl⟩
  go_wp2_with fail
  refine (check_ok _ _ (by omega) (by omega)).mono ?_
  rintro e w' ⟨rfl, rfl⟩
  go_wp2_with fail
  refine (check_bad F _ _ hF (by omega)).mono ?_
  rintro e w1 ⟨⟨a1, rfl⟩, hb1⟩
  go_wp2_with fail
  refine (check_bad F _ _ (by rw [hb1.tape]; exact hF) (by omega)).mono ?_
  rintro e w2 ⟨⟨a2, rfl⟩, hb2⟩
  go_wp2_with fail
  go_ret
  exact ⟨rfl, hb1.trans (hb2.mono hb1.size)⟩
end Go.Proofs.YbulkajnyFmt
