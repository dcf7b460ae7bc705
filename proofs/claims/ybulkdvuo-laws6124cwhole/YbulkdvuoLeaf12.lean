import Derived.Test.YbulkdvuoLeaf11
namespace Go.Proofs.Ybulkdvuo
open Go.RowKit
set_option linter.unusedSimpArgs false

/-- what a lookup in the map at block hb answers, in every world that holds the same map there -/
def HeldAs (es : Array MapEntry) (ck : Nat) (hb : Nat) (ids : List Tri) (f : Tri → Tri) : Prop :=
  ∀ x y z (w' : World), w'.heap[hb]? = some (.map es ck) → (Instr.lookup 53 (.map (some hb)) (.agg #[.int .i64 x, .int .i64 y, .int .i64 z]) true).run Yba.prog w' = .ok (.tuple #[.agg #[.int .i64 (f (x, y, z)).1, .int .i64 (f (x, y, z)).2.1, .int .i64 (f (x, y, z)).2.2, .slice none 0 0, .int .i64 0], .bool (decide ((x, y, z) ∈ ids))]) w'
theorem heap_alloc_lt {w : World} {o : Obj} {k : Nat} (h : k < w.heap.size) : (w.alloc o).heap[k]? = w.heap[k]? := Below.heap_alloc _ _ _ h

set_option maxRecDepth 20000 in
set_option maxHeartbeats 1000000 in
/-- Member.lacks -/
theorem lacks_any (mb hb : Nat) (es : Array MapEntry) (ck : Nat) (ids : List Tri) (f : Tri → Tri) (x y z : Int) (w : World) (hg : mb < w.heap.size) (c33 : w.cell? ⟨mb, 33, none⟩ = some (.map (some hb))) (c37 : w.cell? ⟨mb, 37, none⟩ = some (.map none)) (hh : w.heap[hb]? = some (.map es ck)) (hH : HeldAs es ck hb ids f) :
    Calls Yba.prog 23 #[.pointer (some ⟨mb, 0, none⟩), .agg #[.int .i64 x, .int .i64 y, .int .i64 z]] w fun e w' => e = .returned (.bool (!decide ((x, y, z) ∈ ids))) ∧ Below w.heap.size w w' := by
  have hbl : hb < w.heap.size := (Array.getElem?_eq_some_iff.1 hh).1
  have hlk := hH x y z
  have hh1 : (w.alloc (.cells #[.int .i64 x, .int .i64 y, .int .i64 z] 86)).heap[hb]? = some (.map es ck) := (heap_alloc_lt hbl).trans hh
  have hh2 : (w.alloc (.cells #[.int .i64 x, .int .i64 y, .int .i64 z] 86)).drew.heap[hb]? = some (.map es ck) := hh1
  have hh3 : ∀ o : Obj, ((w.alloc (.cells #[.int .i64 x, .int .i64 y, .int .i64 z] 86)).alloc o).drew.heap[hb]? = some (.map es ck) := fun o => (heap_alloc_lt (w := w.alloc (.cells #[.int .i64 x, .int .i64 y, .int .i64 z] 86)) (by simp; omega)).trans hh1
  generalize f (x, y, z) = t at hlk
  generalize hd : decide ((x, y, z) ∈ ids) = d at hlk ⊢
  clear hh hH
  go_enter Yba.func23, Yba.ntmps23
  go_wp2_with fail
  go_region_held3 (fun w' => w'.cell? ⟨mb, 33, none⟩ = some (.map (some hb)) ∧ w'.cell? ⟨w.heap.size, 0, none⟩ = some (.int .i64 x) ∧ w'.cell? ⟨w.heap.size, 1, none⟩ = some (.int .i64 y) ∧ w'.cell? ⟨w.heap.size, 2, none⟩ = some (.int .i64 z) ∧ w'.heap[hb]? = some (.map es ck)) (first | go_keep | (refine ⟨?_, ?_, ?_, ?_, hh3 _⟩ <;> go_keep)) (fail)
  all_goals
    cases d
    · go_wp2_with fail
      go_region_held3 (fun w' => w'.cell? ⟨mb, 37, none⟩ = some (.map none) ∧ w'.cell? ⟨w.heap.size, 0, none⟩ = some (.int .i64 x) ∧ w'.cell? ⟨w.heap.size, 1, none⟩ = some (.int .i64 y) ∧ w'.cell? ⟨w.heap.size, 2, none⟩ = some (.int .i64 z)) (go_keep)
        (first | (go_at_call 29; refine (has_none mb 37 x y z _ (by simp; omega) (by simp [go_sem, hg, c37]; done)).mono ?_; rintro e w1 ⟨rfl, hb1⟩; obtain ⟨hc1, hf1⟩ := bcell hb1; have k37 : w1.cell? ⟨mb, 37, none⟩ = some (.map none) := (hc1 mb 37 (by simp; omega)).trans (by simp [go_sem, hg, c37]; done); have k0 : w1.cell? ⟨w.heap.size, 0, none⟩ = some (.int .i64 x) := (hc1 w.heap.size 0 (by simp; omega)).trans (by simp [go_sem]); have k1 : w1.cell? ⟨w.heap.size, 1, none⟩ = some (.int .i64 y) := (hc1 w.heap.size 1 (by simp; omega)).trans (by simp [go_sem]); have k2 : w1.cell? ⟨w.heap.size, 2, none⟩ = some (.int .i64 z) := (hc1 w.heap.size 2 (by simp; omega)).trans (by simp [go_sem]); clear hc1 hf1))
      go_wp2_with fail
      go_ret
      exact ⟨rfl, Below.trans (by repeat (first | exact Below.refl _ _ | apply Below.drew | refine Below.alloc ?_ (by simp <;> omega) _ | refine bdrewN ?_ _)) (hb1.mono (by simp; omega))⟩
    · go_wp2_with fail
      go_quiet (fail)
      go_wp2_with fail
      go_ret
      exact ⟨rfl, (by repeat (first | exact Below.refl _ _ | apply Below.drew | refine Below.alloc ?_ (by simp <;> omega) _ | refine bdrewN ?_ _))⟩
end Go.Proofs.Ybulkdvuo
