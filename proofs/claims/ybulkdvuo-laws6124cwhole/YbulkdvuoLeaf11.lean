import Derived.Test.YbulkdvuoLeaf10
namespace Go.Proofs.Ybulkdvuo
open Go.RowKit
set_option linter.unusedSimpArgs false

theorem lookup_nil (x y z : Int) (w : World) : (Instr.lookup 56 (.map none) (.agg #[.int .i64 x, .int .i64 y, .int .i64 z]) false).run Yba.prog w = .ok (.bool false) w := by kernel_rfl

set_option maxRecDepth 20000 in
/-- doneSet.has: nothing done -/
theorem has_none (mb o : Nat) (x y z : Int) (w : World) (hg : mb < w.heap.size) (c0 : w.cell? ⟨mb, o, none⟩ = some (.map none)) :
    Calls Yba.prog 29 #[.pointer (some ⟨mb, o, none⟩), .agg #[.int .i64 x, .int .i64 y, .int .i64 z]] w fun e w' => e = .returned (.bool false) ∧ Below w.heap.size w w' := by
  have hlk := lookup_nil x y z
  go_enter Yba.func29, Yba.ntmps29
  go_wp2_with fail
  go_quiet (fail)
  go_wp2_with fail
  go_ret
  exact ⟨rfl, bdrewN ((Below.refl _ _).alloc (Nat.le_refl _) _) _⟩
end Go.Proofs.Ybulkdvuo
