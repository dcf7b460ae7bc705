import Derived.Test.YbulkdvuoLeaf3
namespace Go.Proofs.Ybulkdvuo
open Go.RowKit
set_option linter.unusedSimpArgs false

theorem bdrewN {B : Nat} {a w : World} (h : Below B a w) (n : Nat) : Below B a (w.drewN n) := h.trans ⟨rfl, rfl, rfl, Nat.le_refl _, fun _ _ => rfl⟩

set_option maxRecDepth 20000 in
/-- slices.Index at a row of one MessageID that is the one looked for -/
theorem index1_any (g : Nat) (x y z : Int) (w : World) (hg : g < w.heap.size)
    (c0 : w.cell? ⟨g, 0, none⟩ = some (.int .i64 x)) (c1 : w.cell? ⟨g, 1, none⟩ = some (.int .i64 y)) (c2 : w.cell? ⟨g, 2, none⟩ = some (.int .i64 z)) :
    Calls Yba.prog 28 #[.slice (some ⟨g, 0, none⟩) 1 1, .agg #[.int .i64 x, .int .i64 y, .int .i64 z]] w fun e w' =>
      e = .returned (.int .i64 0) ∧ Below w.heap.size w w' := by
  go_enter Yba.func28, Yba.ntmps28
  go_wp2
  refine wp_loop_rounds 1 ?_; rw [rounds_succ]
  go_wp2
  go_quiet (fail)
  go_wp2
  go_ret
  exact ⟨rfl, bdrewN ((Below.refl _ _).alloc (Nat.le_refl _) _) _⟩

set_option maxRecDepth 20000 in
/-- slices.Contains at such a row -/
theorem contains1_any (g : Nat) (x y z : Int) (w : World) (hg : g < w.heap.size)
    (c0 : w.cell? ⟨g, 0, none⟩ = some (.int .i64 x)) (c1 : w.cell? ⟨g, 1, none⟩ = some (.int .i64 y)) (c2 : w.cell? ⟨g, 2, none⟩ = some (.int .i64 z)) :
    Calls Yba.prog 22 #[.slice (some ⟨g, 0, none⟩) 1 1, .agg #[.int .i64 x, .int .i64 y, .int .i64 z]] w fun e w' =>
      e = .returned (.bool true) ∧ Below w.heap.size w w' := by
  go_enter Yba.func22, Yba.ntmps22
  go_wp2_with fail
  refine (index1_any g x y z _ (by simp; omega) (by rw [World.cell?_alloc_past _ _ _ hg]; exact c0) (by rw [World.cell?_alloc_past _ _ _ hg]; exact c1) (by rw [World.cell?_alloc_past _ _ _ hg]; exact c2)).mono ?_
  rintro e w1 ⟨rfl, hb1⟩
  go_wp2_with fail
  go_ret
  exact ⟨rfl, ((Below.refl _ _).alloc (Nat.le_refl _) _).trans (hb1.mono (by simp))⟩
end Go.Proofs.Ybulkdvuo
