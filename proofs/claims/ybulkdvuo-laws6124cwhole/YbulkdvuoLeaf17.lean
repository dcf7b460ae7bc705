import Derived.Test.YbulkdvuoLeaf16
namespace Go.Proofs.Ybulkdvuo
open Go.RowKit
set_option linter.unusedSimpArgs false

theorem setCell_set_block (w : World) (a : Addr) (x y : Value) (j : Nat) : ((w.setCell a x).setCell a y).heap[j]? = (w.setCell a y).heap[j]? := by
  unfold World.setCell
  simp only [Array.getElem?_modify]
  by_cases h : a.block = j
  · subst h
    cases hc : w.heap[a.block]? with
    | none => simp
    | some o =>
      cases o <;> simp
      by_cases hs : a.spot.isSome = true
      · simp [hs]
      · simp only [hs]
        apply Array.ext_getElem?
        intro i
        simp only [Bool.false_eq_true, if_false, Array.getElem?_setIfInBounds, Array.size_setIfInBounds]
        by_cases hi : a.off = i <;> simp [hi]
  · simp [h]
theorem setCell_block_congr {u v : World} {a : Addr} {x : Value} {j : Nat} (h : v.heap[j]? = u.heap[j]?) : (v.setCell a x).heap[j]? = (u.setCell a x).heap[j]? := by
  unfold World.setCell
  simp only [Array.getElem?_modify]
  by_cases hj : a.block = j
  · simp [hj, h]
  · simp [hj, h]
/-- the same cell written anew on both sides -/
theorem below_set {B : Nat} {w v : World} {a : Addr} {x : Value} (h : Below B (w.setCell a x) v) (y : Value) : Below B (w.setCell a y) (v.setCell a y) :=
  ⟨h.os, h.tape, h.output, by simpa using h.size, fun j hj => (setCell_block_congr (h.block j hj)).trans (setCell_set_block w a x y j)⟩
end Go.Proofs.Ybulkdvuo
