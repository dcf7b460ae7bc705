import Derived.Shelf.Path.Join
import Derived.Test.YbulkdvvcDoorProg
namespace Go.Proofs.YbulkdvvcDoor
open Go.Shelf
def laysPah31_ren : Go.Shelf.Ren := ⟨fun | 31 => 7 | 30 => 11 | 46 => 14 | 47 => 15 | 48 => 16 | n => n, fun | 26 => 33 | 9 => 9 | 3 => 3 | 0 => 0 | 4 => 4 | 30 => 31 | 5 => 5 | 42 => 40 | 48 => 45 | n => n, fun | n => n⟩
theorem laysPah31 : Go.Proofs.Lays.ph31 Ybad.prog laysPah31_ren := {
  mixed := by kernel_rfl
  f30 := Ybad.func11.trans (congrArg some (by kernel_rfl))
  f31 := Ybad.func7.trans (congrArg some (by kernel_rfl))
  f46 := Ybad.func14.trans (congrArg some (by kernel_rfl))
  f47 := Ybad.func15.trans (congrArg some (by kernel_rfl))
  f48 := Ybad.func16.trans (congrArg some (by kernel_rfl))
  t0 := Ybad.underlying0
  a0 := Ybad.isAgg0
  z0 := Ybad.sizeOf0
  v0 := Ybad.zeroValue0
  t3 := Ybad.underlying3
  a3 := Ybad.isAgg3
  z3 := Ybad.sizeOf3
  v3 := Ybad.zeroValue3
  t4 := Ybad.underlying4
  a4 := Ybad.isAgg4
  z4 := Ybad.sizeOf4
  v4 := Ybad.zeroValue4
  t5 := Ybad.underlying5
  a5 := Ybad.isAgg5
  z5 := Ybad.sizeOf5
  v5 := Ybad.zeroValue5
  t9 := Ybad.underlying9
  a9 := Ybad.isAgg9
  z9 := Ybad.sizeOf9
  v9 := Ybad.zeroValue9
  t26 := Ybad.underlying33
  a26 := Ybad.isAgg33
  z26 := Ybad.sizeOf33
  v26 := Ybad.zeroValue33
  t30 := Ybad.underlying31
  a30 := Ybad.isAgg31
  z30 := Ybad.sizeOf31
  v30 := Ybad.zeroValue31
  t42 := Ybad.underlying40
  a42 := Ybad.isAgg40
  z42 := Ybad.sizeOf40
  v42 := Ybad.zeroValue40
  t48 := Ybad.underlying45
  a48 := Ybad.isAgg45
  z48 := Ybad.sizeOf45
  v48 := Ybad.zeroValue45
  info5 := by kernel_rfl }
open Go.RowKit Go.Lib in
theorem path_Join (bk o c : Nat) (xs : List ByteArray) (w : World) (hcells : ∀ (j : Nat) x, xs[j]? = some x → w.cell? ⟨bk, o + j, none⟩ = some (.string x)) (hbk : bk < w.heap.size) (hlen : Pa.lens (xs.map (·.data.toList)) + xs.length ≤ 281474976710656) :
    Calls Ybad.prog 7 #[.slice (some ⟨bk, o, none⟩) xs.length c] w fun e w' => e = .returned (.string ⟨(Pa.joinL (xs.map (·.data.toList))).toArray⟩) ∧ Below w.heap.size w w' := Any.path_Join laysPah31 bk o c xs w hcells hbk hlen
end Go.Proofs.YbulkdvvcDoor
