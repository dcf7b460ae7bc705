import Derived.Shelf.Small.Bits
import Derived.Test.YbulkdvuoProg
namespace Go.Proofs.Ybulkdvuo
open Go.Shelf
def lays125_ren : Go.Shelf.Ren := ⟨fun | 125 => 32 | 128 => 33 | 129 => 34 | n => n, fun | 46 => 114 | 3 => 3 | 51 => 139 | 53 => 141 | 4 => 4 | 5 => 5 | 9 => 9 | n => n, fun | n => n⟩
theorem lays125 : Go.Proofs.Lays.n125 Yba.prog lays125_ren := {
  mixed := by kernel_rfl
  f125 := Yba.func32.trans (congrArg some (by kernel_rfl))
  f128 := Yba.func33.trans (congrArg some (by kernel_rfl))
  f129 := Yba.func34.trans (congrArg some (by kernel_rfl))
  t3 := Yba.underlying3
  a3 := Yba.isAgg3
  z3 := Yba.sizeOf3
  v3 := Yba.zeroValue3
  t4 := Yba.underlying4
  a4 := Yba.isAgg4
  z4 := Yba.sizeOf4
  v4 := Yba.zeroValue4
  t5 := Yba.underlying5
  a5 := Yba.isAgg5
  z5 := Yba.sizeOf5
  v5 := Yba.zeroValue5
  t9 := Yba.underlying9
  a9 := Yba.isAgg9
  z9 := Yba.sizeOf9
  v9 := Yba.zeroValue9
  t46 := Yba.underlying114
  a46 := Yba.isAgg114
  z46 := Yba.sizeOf114
  v46 := Yba.zeroValue114
  t51 := Yba.underlying139
  a51 := Yba.isAgg139
  z51 := Yba.sizeOf139
  v51 := Yba.zeroValue139
  t53 := Yba.underlying141
  a53 := Yba.isAgg141
  z53 := Yba.sizeOf141
  v53 := Yba.zeroValue141 }
theorem bits_Len (x : Int) (w : World) (h0 : 0 ≤ x) (h1 : x ≤ 18446744073709551615) :
    Calls Yba.prog 32 #[.int .u64 x] w fun e w' => e = .returned (.int .i64 (Lib.bitLen x.toNat)) ∧ w' = w := Any.bits_Len lays125 x w h0 h1
end Go.Proofs.Ybulkdvuo
