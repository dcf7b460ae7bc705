import Derived.Test.YbulkdvuoLeaf12
namespace Go.Proofs.Ybulkdvuo
open Go.RowKit
set_option linter.unusedSimpArgs false

set_option maxRecDepth 20000 in
/-- asksMessagesAfter's closure at an ack of the one MessageID looked for -/
theorem asks1 (ab rb ib : Nat) (x y z : Int) (w : World) (hab : ab < w.heap.size) (hrb : rb < w.heap.size) (hib : ib < w.heap.size)
    (a1 : w.cell? ⟨ab, 1, none⟩ = some (.slice (some ⟨rb, 0, none⟩) 1 1))
    (r0 : w.cell? ⟨rb, 0, none⟩ = some (.int .i64 x)) (r1 : w.cell? ⟨rb, 1, none⟩ = some (.int .i64 y)) (r2 : w.cell? ⟨rb, 2, none⟩ = some (.int .i64 z))
    (i0 : w.cell? ⟨ib, 0, none⟩ = some (.int .i64 x)) (i1 : w.cell? ⟨ib, 1, none⟩ = some (.int .i64 y)) (i2 : w.cell? ⟨ib, 2, none⟩ = some (.int .i64 z)) :
    Calls Yba.prog 21 #[.pointer (some ⟨ab, 0, none⟩), .pointer (some ⟨ib, 0, none⟩)] w fun e w' => e = .returned (.bool true) ∧ Below w.heap.size w w' := by
  go_enter Yba.func21, Yba.ntmps21
  go_wp2_with fail
  go_region_held3 (fun w' => w'.cell? ⟨ab, 1, none⟩ = some (.slice (some ⟨rb, 0, none⟩) 1 1) ∧ w'.cell? ⟨ib, 0, none⟩ = some (.int .i64 x) ∧ w'.cell? ⟨ib, 1, none⟩ = some (.int .i64 y) ∧ w'.cell? ⟨ib, 2, none⟩ = some (.int .i64 z)) (go_keep)
    (first | (go_at_call 22; refine (contains1_any rb x y z _ (by simp; omega) (by simp [r0]) (by simp [r1]) (by simp [r2])).mono ?_; rintro e w1 ⟨rfl, hb1⟩; obtain ⟨hc1, hf1⟩ := bcell hb1; have k1 : w1.cell? ⟨ab, 1, none⟩ = some (.slice (some ⟨rb, 0, none⟩) 1 1) := (hc1 ab 1 (by simp; omega)).trans (by simp [a1]); have k2 : w1.cell? ⟨ib, 0, none⟩ = some (.int .i64 x) := (hc1 ib 0 (by simp; omega)).trans (by simp [i0]); have k3 : w1.cell? ⟨ib, 1, none⟩ = some (.int .i64 y) := (hc1 ib 1 (by simp; omega)).trans (by simp [i1]); have k4 : w1.cell? ⟨ib, 2, none⟩ = some (.int .i64 z) := (hc1 ib 2 (by simp; omega)).trans (by simp [i2]); clear hc1 hf1))
  all_goals
    go_wp2_with fail
    go_ret
    exact ⟨rfl, Below.trans (by repeat (first | exact Below.refl _ _ | apply Below.drew | refine bdrewN ?_ _)) (hb1.mono (by simp))⟩

set_option maxRecDepth 20000 in
/-- slices.IndexFunc at no ack -/
theorem indexFunc0 (a : Option Addr) (c : Nat) (f : Value) (w : World) :
    Calls Yba.prog 20 #[.slice a 0 c, f] w fun e w' => e = .returned (.int .i64 (-1)) ∧ w' = w := by
  go_enter Yba.func20, Yba.ntmps20
  go_wp2
  refine wp_loop_rounds 1 ?_; rw [rounds_succ]
  go_wp2
  go_ret
  exact ⟨rfl, rfl⟩
set_option maxRecDepth 20000 in
/-- slices.IndexFunc at the one ack -/
theorem indexFunc1 (kb ab rb ib : Nat) (x y z : Int) (w : World) (hab : ab < w.heap.size) (hrb : rb < w.heap.size) (hib : ib < w.heap.size)
    (k0 : w.cell? ⟨kb, 0, none⟩ = some (.pointer (some ⟨ab, 0, none⟩)))
    (a1 : w.cell? ⟨ab, 1, none⟩ = some (.slice (some ⟨rb, 0, none⟩) 1 1))
    (r0 : w.cell? ⟨rb, 0, none⟩ = some (.int .i64 x)) (r1 : w.cell? ⟨rb, 1, none⟩ = some (.int .i64 y)) (r2 : w.cell? ⟨rb, 2, none⟩ = some (.int .i64 z))
    (i0 : w.cell? ⟨ib, 0, none⟩ = some (.int .i64 x)) (i1 : w.cell? ⟨ib, 1, none⟩ = some (.int .i64 y)) (i2 : w.cell? ⟨ib, 2, none⟩ = some (.int .i64 z)) :
    Calls Yba.prog 20 #[.slice (some ⟨kb, 0, none⟩) 1 1, .func (.func 21) #[] #[.pointer (some ⟨ib, 0, none⟩)]] w fun e w' => e = .returned (.int .i64 0) ∧ Below w.heap.size w w' := by
  go_enter Yba.func20, Yba.ntmps20
  go_wp2
  refine wp_loop_rounds 1 ?_; rw [rounds_succ]
  go_wp2_with fail
  refine (asks1 ab rb ib x y z _ hab hrb hib a1 r0 r1 r2 i0 i1 i2).mono ?_
  rintro e w1 ⟨rfl, hb1⟩
  go_wp2_with fail
  go_ret
  exact ⟨rfl, hb1⟩
end Go.Proofs.Ybulkdvuo
