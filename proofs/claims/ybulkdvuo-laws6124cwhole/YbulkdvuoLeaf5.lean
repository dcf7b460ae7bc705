import Derived.Test.YbulkdvuoLeaf4
namespace Go.Proofs.Ybulkdvuo
open Go.RowKit
set_option linter.unusedSimpArgs false

set_option maxRecDepth 20000 in
/-- history.inForce at one ring -/
theorem inForce1 (a : Option Addr) (c : Nat) (s : Int) (w : World) :
    Calls Yba.prog 30 #[.slice a 1 c, .int .i64 s] w fun e w' => e = .returned (.int .i64 0) ∧ w' = w := by
  go_enter Yba.func30, Yba.ntmps30
  go_wp2
  refine wp_loop_rounds 1 ?_; rw [rounds_succ]
  go_wp2
  go_ret
  exact ⟨rfl, rfl⟩

set_option maxRecDepth 20000 in
/-- history.at at one ring -/
theorem at1 (g c : Nat) (s si fr fi : Int) (oa : Option Addr) (on oc : Nat) (w : World) (hg : g < w.heap.size)
    (c0 : w.cell? ⟨g, 0, none⟩ = some (.int .i64 si)) (c1 : w.cell? ⟨g, 1, none⟩ = some (.int .i64 fr)) (c2 : w.cell? ⟨g, 2, none⟩ = some (.int .i64 fi)) (c3 : w.cell? ⟨g, 3, none⟩ = some (.slice oa on oc)) :
    Calls Yba.prog 24 #[.slice (some ⟨g, 0, none⟩) 1 c, .int .i64 s] w fun e w' => e = .returned (.agg #[.int .i64 si, .int .i64 fr, .int .i64 fi, .slice oa on oc]) ∧ Below w.heap.size w w' := by
  go_enter Yba.func24, Yba.ntmps24
  go_wp2_with fail
  refine (inForce1 _ _ _ _).mono ?_
  rintro e w1 ⟨rfl, hw1⟩
  have hw1 := hw1.symm
  subst hw1
  go_wp2_with fail
  exact bodyPost_ret (v := .agg #[.int .i64 si, .int .i64 fr, .int .i64 fi, .slice oa on oc]) (by simp [results, Yba.results24, go_sem]) rfl ⟨rfl, (Below.refl _ _).alloc (Nat.le_refl _) _⟩
end Go.Proofs.Ybulkdvuo
