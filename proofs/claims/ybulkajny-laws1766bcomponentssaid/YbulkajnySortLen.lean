import Derived.Shelf.Small.Bits
import Derived.Test.YbulkajnyProg
namespace Go.Proofs
open Go.Shelf
def Yba.lays125_ren : Go.Shelf.Ren := ⟨fun | 125 => 22 | 128 => 38 | 129 => 39 | n => n, fun | 46 => 58 | 3 => 3 | 51 => 91 | 53 => 93 | 4 => 4 | 5 => 5 | 9 => 9 | n => n, fun | n => n⟩
theorem Yba.lays125 : Go.Proofs.Lays.n125 Yba.prog Yba.lays125_ren := {
  mixed := by kernel_rfl
  f125 := Yba.func22.trans (congrArg some (by kernel_rfl))
  f128 := Yba.func38.trans (congrArg some (by kernel_rfl))
  f129 := Yba.func39.trans (congrArg some (by kernel_rfl))
  t3 := Yba.underlying3
  a3 := Yba.isAgg3
  z3 := Yba.sizeOf3
  v3 := Yba.zeroValue3
  t4 := Yba.underlying4
  a4 := Yba.isAgg4
  z4 := Yba.sizeOf4
  v4 := Yba.zeroValue4
  t5 := Yba.underlying5
  a5 := Yba.isAgg5
  z5 := Yba.sizeOf5
  v5 := Yba.zeroValue5
  t9 := Yba.underlying9
  a9 := Yba.isAgg9
  z9 := Yba.sizeOf9
  v9 := Yba.zeroValue9
  t46 := Yba.underlying58
  a46 := Yba.isAgg58
  z46 := Yba.sizeOf58
  v46 := Yba.zeroValue58
  t51 := Yba.underlying91
  a51 := Yba.isAgg91
  z51 := Yba.sizeOf91
  v51 := Yba.zeroValue91
  t53 := Yba.underlying93
  a53 := Yba.isAgg93
  z53 := Yba.sizeOf93
  v53 := Yba.zeroValue93 }
theorem Yba.bits_Len (x : Int) (w : World) (h0 : 0 ≤ x) (h1 : x ≤ 18446744073709551615) :
    Calls Yba.prog 22 #[.int .u64 x] w fun e w' => e = .returned (.int .i64 (Lib.bitLen x.toNat)) ∧ w' = w := Any.bits_Len Yba.lays125 x w h0 h1
end Go.Proofs
namespace Go.Proofs.Ybulkajny
theorem s32_bits_Len (x : Int) (w : World) (h0 : 0 ≤ x) (h1 : x ≤ 18446744073709551615) :
    Calls Yba.prog 22 #[.int .u64 x] w fun e w' => e = .returned (.int .i64 (Lib.bitLen x.toNat)) ∧ w' = w := Yba.bits_Len x w h0 h1
end Go.Proofs.Ybulkajny
