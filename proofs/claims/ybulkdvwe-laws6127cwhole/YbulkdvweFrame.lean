import Derived.Test.YbulkdvweEqual
namespace Go.Proofs.Ybulkdvwe
open Go.RowKit
set_option linter.unusedSimpArgs false

theorem setCell_self {w : World} {a : Addr} {v : Value} (h : w.cell? a = some v) : (w.setCell a v).heap = w.heap := by
  obtain ⟨b, o, s⟩ := a
  have hb : ∃ c t fr, w.heap[b]? = some (.cells c t fr) ∧ s = none ∧ c[o]? = some v := by
    unfold World.cell? at h
    simp only at h
    split at h
    · rename_i c t fr hc
      by_cases hs : s.isSome
      · simp [hs] at h
      · exact ⟨c, t, fr, hc, by simpa using hs, by simpa [hs] using h⟩
    · cases h
  obtain ⟨c, t, fr, hc, rfl, ho⟩ := hb
  apply Array.ext_getElem?
  intro k
  unfold World.setCell
  simp only [Array.getElem?_modify]
  by_cases hk : b = k
  · subst hk
    rw [hc]
    have : c.setIfInBounds o v = c := by
      apply Array.ext_getElem?
      intro j
      rw [Array.getElem?_setIfInBounds]
      by_cases hj : o = j
      · subst hj
        have hlt : o < c.size := (Array.getElem?_eq_some_iff.1 ho).1
        have hv : c[o] = v := (Array.getElem?_eq_some_iff.1 ho).2
        simp [hlt, hv]
      · simp [hj]
    simp [this]
  · simp [hk]
theorem setCell_set_block (w : World) (a : Addr) (x y : Value) (j : Nat) : ((w.setCell a x).setCell a y).heap[j]? = (w.setCell a y).heap[j]? := by
  unfold World.setCell
  simp only [Array.getElem?_modify]
  by_cases h : a.block = j
  · subst h
    cases hc : w.heap[a.block]? with
    | none => simp
    | some o =>
      cases o <;> simp
      by_cases hs : a.spot.isSome = true
      · simp [hs]
      · simp only [hs]
        apply Array.ext_getElem?
        intro i
        simp only [Bool.false_eq_true, if_false, Array.getElem?_setIfInBounds, Array.size_setIfInBounds]
        by_cases hi : a.off = i <;> simp [hi]
  · simp [h]
theorem setCell_block_congr {u v : World} {a : Addr} {x : Value} {j : Nat} (h : v.heap[j]? = u.heap[j]?) : (v.setCell a x).heap[j]? = (u.setCell a x).heap[j]? := by
  unfold World.setCell
  simp only [Array.getElem?_modify]
  by_cases hj : a.block = j
  · simp [hj, h]
  · simp [hj, h]
/-- the same cell written anew on both sides -/
theorem below_set {B : Nat} {w v : World} {a : Addr} {x : Value} (h : Below B (w.setCell a x) v) (y : Value) : Below B (w.setCell a y) (v.setCell a y) :=
  ⟨h.os, h.tape, h.output, by simpa using h.size, fun j hj => (setCell_block_congr (h.block j hj)).trans (setCell_set_block w a x y j)⟩
theorem below_grown {B : Nat} {w w' w'' : World} {row : Option Nat} (h : Below B w w') (hg : w'.grownBy w'' row) (hB : B ≤ w'.heap.size) (hr : ∀ k, row = some k → B ≤ k) : Below B w w'' :=
  h.trans ⟨hg.os, hg.tape, hg.output, hg.size, fun k hk => hg.block k (by omega) (fun e => by have := hr k e.symm; omega)⟩
/-- a cell written over and back -/
theorem below_back {B : Nat} {w v : World} {a : Addr} {x y : Value} (hc : w.cell? a = some y) (h : Below B (w.setCell a x) v) : Below B w (v.setCell a y) := by
  have h2 := below_set h y
  have hh := setCell_self hc
  exact ⟨h2.os, h2.tape, h2.output, by have := h2.size; simpa using this, fun j hj => (h2.block j hj).trans (by rw [hh])⟩
/-- a range beside the cell that is written -/
theorem rangeAt_beside {w : World} {b o c : Nat} {cs : List Value} {v : Value} (h : w.rangeAt b o cs) (hc : c < o ∨ o + cs.length ≤ c) : (w.setCell ⟨b, c, none⟩ v).rangeAt b o cs := fun j u hu => by
  have hj : j < cs.length := (List.getElem?_eq_some_iff.1 hu).1
  rw [World.cell?_setCell_other (h := by intro e; injection e with _ e2; omega)]
  exact h j u hu
end Go.Proofs.Ybulkdvwe
