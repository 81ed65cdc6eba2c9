import Derived.Test.YbulkajqcFmtRows
import Derived.WalkKit
import Derived.WalkSpells
import Derived.Stop.CallBack
import Derived.Stop.IfaceNil
import GoSem.ClaimData
namespace Go.Proofs.YbulkajqcFmt
open Go.RowKit Go.Extern.Stop Go.Stop Go.Extern

theorem call15 (args : Array Value) (w : World) : (callFunc 15 args).run Ybaf.prog w = (FmtCalls.sprintf #[9, 48] #[9] args).run Ybaf.prog w :=
  run_callFunc_next Ybaf.func15 (by kernel_rfl) (by kernel_rfl) (by kernel_rfl) args w
theorem call17 (args : Array Value) (w : World) : (callFunc 17 args).run Ybaf.prog w = ((FmtStop.errorf #[9, 48] #[29] args).run Ybaf.prog w).andThen fun v w' => .ok (.value v) w' :=
  run_callFunc_extern Ybaf.func17 (by kernel_rfl) (by kernel_rfl) (by kernel_rfl) (by kernel_rfl) args w
theorem guardF (name : String) (w : World) : (FmtStop.guard name).run Ybaf.prog w = .ok () w := by kernel_rfl
theorem nextTurns : Extern.next FmtCalls.turnsRow = some (FmtCalls.begun #[] #[]) := by kernel_rfl
/-- 'byte 0x%x: %s', two operands -/
theorem fmtE : FmtStop.printed? ⟨#[98, 121, 116, 101, 32, 48, 120, 37, 120, 58, 32, 37, 115]⟩ 2 = some [(0, 120, false), (1, 115, false)] := by kernel_rfl
theorem fmtEr (w : World) : (FmtDoors.printed ⟨#[98, 121, 116, 101, 32, 48, 120, 37, 120, 58, 32, 37, 115]⟩ 2).run Ybaf.prog w = .ok [(0, 120, false), (1, 115, false)] w := by kernel_rfl
def shape3 : List UInt8 := [5, 3, 0, 0, 0, 0, 0, 0, 0, 105, 110, 116]
def shape9 : List UInt8 := [12, 6, 0, 0, 0, 0, 0, 0, 0, 115, 116, 114, 105, 110, 103]
theorem op3x (name : String) (x : Int) (w : World) : (FmtStop.operand name true 120 false (.iface 3 (.int .i64 x))).run Ybaf.prog w = .ok (shape3, Go.Extern.Stop.digits 8 (x % 2 ^ 64).toNat) w := by kernel_rfl
theorem op9s (name : String) (x : ByteArray) (w : World) : (FmtStop.operand name true 115 false (.iface 9 (.string x))).run Ybaf.prog w = .ok (shape9, FmtStop.pack x.data.toList) w := by kernel_rfl
theorem ptr53 (w : World) : (FmtStop.ptrTo "errors.errorString").run Ybaf.prog w = .ok 53 w := by kernel_rfl
theorem elem53 (w : World) : (elemOf 53).run Ybaf.prog w = .ok 55 w := by kernel_rfl
theorem fmt2 : FmtStop.printed? ⟨#[117, 110, 101, 120, 112, 101, 99, 116, 101, 100, 32, 101, 110, 100, 58, 32, 37, 100, 32, 101, 108, 101, 109, 101, 110, 116, 115, 32, 119, 97, 110, 116, 101, 100, 44, 32, 37, 100, 32, 98, 121, 116, 101, 115, 32, 108, 101, 102, 116]⟩ 2 = some [(0, 100, false), (1, 100, false)] := by kernel_rfl
theorem fmt1 : FmtStop.printed? ⟨#[109, 97, 108, 102, 111, 114, 109, 101, 100, 32, 118, 97, 108, 117, 101, 32, 116, 121, 112, 101, 32, 48, 120, 37, 48, 50, 120]⟩ 1 = some [(0, 120, false)] := by kernel_rfl
theorem act34 (name : String) (x : Value) (w : World) : (FmtCalls.act name false 100 false (.iface 34 x)).run Ybaf.prog w = .ok (.closed false) w := by kernel_rfl
theorem act3 (name : String) (x : Value) (w : World) : (FmtCalls.act name false 100 false (.iface 3 x)).run Ybaf.prog w = .ok (.closed false) w := by kernel_rfl
theorem act5 (name : String) (x : Value) (w : World) : (FmtCalls.act name false 120 false (.iface 5 x)).run Ybaf.prog w = .ok (.closed false) w := by kernel_rfl
def shape34 : List UInt8 := [8, 6, 0, 0, 0, 0, 0, 0, 0, 117, 105, 110, 116, 51, 50]
def shape5 : List UInt8 := [6, 5, 0, 0, 0, 0, 0, 0, 0, 117, 105, 110, 116, 56]
theorem op34 (name : String) (x : Int) (w : World) : (FmtStop.operand name false 100 false (.iface 34 (.int .u32 x))).run Ybaf.prog w = .ok (shape34, Go.Extern.Stop.digits 8 (x % 2 ^ 64).toNat) w := by kernel_rfl
theorem op3d (name : String) (x : Int) (w : World) : (FmtStop.operand name false 100 false (.iface 3 (.int .i64 x))).run Ybaf.prog w = .ok (shape3, Go.Extern.Stop.digits 8 (x % 2 ^ 64).toNat) w := by kernel_rfl
theorem op5 (name : String) (x : Int) (w : World) : (FmtStop.operand name false 120 false (.iface 5 (.int .u8 x))).run Ybaf.prog w = .ok (shape5, Go.Extern.Stop.digits 8 (x % 2 ^ 64).toNat) w := by kernel_rfl
attribute [local go_sem] fmt2 fmt1 act34 act3 act5 op34 op3d op5
attribute [local go_sem] call15 call17 guardF fmtE fmtEr op3x op9s ptr53 elem53

/-- errorf with a format that takes no operand. -/
theorem errorf_plain (F : Interp) (off : Int) (f : ByteArray) (w : World) (hF : F.answers w.tape) (hf : FmtStop.printed? f 0 = some []) :
    Calls Ybaf.prog 11 #[.int .i64 off, .string f, .slice none 0 0] w fun e w' => (∃ a, e = .returned (.iface 53 (.pointer (some a)))) ∧ Below w.heap.size w w' := by
  have hF' := answers_open hF
  go_enter Ybaf.func11, Ybaf.ntmps11
  go_wp2
  apply rows_value nextTurns
  case hr =>
    go_simp
    exact ⟨rfl, rfl⟩
  case h =>
    go_wp2
    go_ret
    refine ⟨⟨_, rfl⟩, ?_⟩
    exact (((Below.refl _ _).alloc (Nat.le_refl _) _).alloc (by simp) _).drew.drew

theorem errorf_two (F : Interp) (off : Int) (k : Nat) (x y : Int) (w : World) (hF : F.answers w.tape) (h0 : w.cell? ⟨k, 0, none⟩ = some (.iface 34 (.int .u32 x))) (h1 : w.cell? ⟨k, 1, none⟩ = some (.iface 3 (.int .i64 y))) :
    Calls Ybaf.prog 11 #[.int .i64 off, .string ⟨#[117, 110, 101, 120, 112, 101, 99, 116, 101, 100, 32, 101, 110, 100, 58, 32, 37, 100, 32, 101, 108, 101, 109, 101, 110, 116, 115, 32, 119, 97, 110, 116, 101, 100, 44, 32, 37, 100, 32, 98, 121, 116, 101, 115, 32, 108, 101, 102, 116]⟩, .slice (some ⟨k, 0, none⟩) 2 2] w fun e w' => (∃ a, e = .returned (.iface 53 (.pointer (some a)))) ∧ Below w.heap.size w w' := by
  have hF' := answers_open hF
  go_enter Ybaf.func11, Ybaf.ntmps11
  go_wp2
  apply rows_value nextTurns
  case hr =>
    go_simp
    exact ⟨rfl, rfl⟩
  case h =>
    go_wp2
    go_ret
    refine ⟨⟨_, rfl⟩, ?_⟩
    exact (((Below.refl _ _).alloc (Nat.le_refl _) _).alloc (by simp) _).drew.drew

theorem errorf_one (F : Interp) (off : Int) (k : Nat) (x : Int) (w : World) (hF : F.answers w.tape) (h0 : w.cell? ⟨k, 0, none⟩ = some (.iface 5 (.int .u8 x))) :
    Calls Ybaf.prog 11 #[.int .i64 off, .string ⟨#[109, 97, 108, 102, 111, 114, 109, 101, 100, 32, 118, 97, 108, 117, 101, 32, 116, 121, 112, 101, 32, 48, 120, 37, 48, 50, 120]⟩, .slice (some ⟨k, 0, none⟩) 1 1] w fun e w' => (∃ a, e = .returned (.iface 53 (.pointer (some a)))) ∧ Below w.heap.size w w' := by
  have hF' := answers_open hF
  go_enter Ybaf.func11, Ybaf.ntmps11
  go_wp2
  apply rows_value nextTurns
  case hr =>
    go_simp
    exact ⟨rfl, rfl⟩
  case h =>
    go_wp2
    go_ret
    refine ⟨⟨_, rfl⟩, ?_⟩
    exact (((Below.refl _ _).alloc (Nat.le_refl _) _).alloc (by simp) _).drew.drew
end Go.Proofs.YbulkajqcFmt
