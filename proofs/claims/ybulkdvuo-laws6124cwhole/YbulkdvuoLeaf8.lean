import Derived.Test.YbulkdvuoLeaf7
import Derived.Test.YbulkdvuoShelf
namespace Go.Proofs.Ybulkdvuo
open Go.RowKit
set_option linter.unusedSimpArgs false

set_option maxRecDepth 20000 in
/-- recruitedFrom -/
theorem recruited_any (d : Int) (w : World) (h0 : 0 ≤ d) (h1 : d ≤ 1000000) :
    Calls Yba.prog 27 #[.int .i64 d] w fun e w' => e = .returned (.int .i64 (Lib.bitLen d.toNat + 1)) ∧ w' = w := by
  have hb : Lib.bitLen d.toNat ≤ 20 := Lib.bitLen_le d.toNat 20 (by omega) (by omega)
  go_enter Yba.func27, Yba.ntmps27
  go_wp2_with fail
  refine (bits_Len d _ h0 (by omega)).mono ?_
  rintro e w1 ⟨rfl, hw1⟩
  have hw1 := hw1.symm
  subst hw1
  go_wp2_with fail
  go_ret
  exact ⟨rfl, rfl⟩
end Go.Proofs.Ybulkdvuo
