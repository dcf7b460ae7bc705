import Derived.Test.YbulkdvuoLeaf15
import Derived.Deep.Heap
namespace Go.Proofs.Ybulkdvuo
open Go.RowKit
set_option linter.unusedSimpArgs false

/-- what 'missing' reads -/
structure Ak (w : World) (mb hb ab rb : Nat) (es : Array MapEntry) (ck : Nat) (ids : List Tri) (k : Nat) : Prop where
  c33 : w.cell? ⟨mb, 33, none⟩ = some (.map (some hb))
  c37 : w.cell? ⟨mb, 37, none⟩ = some (.map none)
  hh : w.heap[hb]? = some (.map es ck)
  a1 : w.cell? ⟨ab, 1, none⟩ = some (.slice (some ⟨rb, 0, none⟩) ids.length ids.length)
  a15 : w.cell? ⟨ab, 15, none⟩ = some (.int .i64 k)
  fz : w.frozen? ⟨ab, 15, none⟩ = false
  rd : IdsAt w rb 0 ids
  bm : mb < w.heap.size
  bh : hb < w.heap.size
  ba : ab < w.heap.size
  br : rb < w.heap.size
theorem Ak.kept {w w' : World} {mb hb ab rb : Nat} {es : Array MapEntry} {ck : Nat} {ids : List Tri} {k : Nat} (h : Ak w mb hb ab rb es ck ids k) (hb' : Below w.heap.size w w') : Ak w' mb hb ab rb es ck ids k :=
  ⟨(hb'.cell (p := ⟨mb, 33, none⟩) h.bm).trans h.c33, (hb'.cell (p := ⟨mb, 37, none⟩) h.bm).trans h.c37, (hb'.block hb h.bh).trans h.hh, (hb'.cell (p := ⟨ab, 1, none⟩) h.ba).trans h.a1, (hb'.cell (p := ⟨ab, 15, none⟩) h.ba).trans h.a15,
    (hb'.frozen (p := ⟨ab, 15, none⟩) h.ba).trans h.fz, h.rd.below hb' h.br, Nat.lt_of_lt_of_le h.bm hb'.size, Nat.lt_of_lt_of_le h.bh hb'.size, Nat.lt_of_lt_of_le h.ba hb'.size, Nat.lt_of_lt_of_le h.br hb'.size⟩
/-- the count raised -/
theorem Ak.set {w : World} {mb hb ab rb : Nat} {es : Array MapEntry} {ck : Nat} {ids : List Tri} {k : Nat} (h : Ak w mb hb ab rb es ck ids k) (hm : mb ≠ ab) (hr : rb ≠ ab) (hhb : hb ≠ ab) (k' : Nat) :
    Ak (w.setCell ⟨ab, 15, none⟩ (.int .i64 k')) mb hb ab rb es ck ids k' := by
  have n1 : ∀ o, (⟨ab, 15, none⟩ : Addr) ≠ ⟨mb, o, none⟩ := fun o e => hm (by injection e with e1; exact e1.symm)
  have n2 : ∀ o, (⟨ab, 15, none⟩ : Addr) ≠ ⟨rb, o, none⟩ := fun o e => hr (by injection e with e1; exact e1.symm)
  have n3 : (⟨ab, 15, none⟩ : Addr) ≠ ⟨ab, 1, none⟩ := fun e => by injection e with _ e2; omega
  refine ⟨?_, ?_, ?_, ?_, ?_, ?_, ?_, by simpa using h.bm, by simpa using h.bh, by simpa using h.ba, by simpa using h.br⟩
  · rw [World.cell?_setCell_other (h := n1 _)]; exact h.c33
  · rw [World.cell?_setCell_other (h := n1 _)]; exact h.c37
  · rw [Go.Deep.blk_setCell_other _ _ _ _ hhb]; exact h.hh
  · rw [World.cell?_setCell_other (h := n3)]; exact h.a1
  · exact World.cell?_setCell_same _ _ _ h.a15
  · simpa using h.fz
  · intro i hi
    obtain ⟨e0, e1, e2⟩ := h.rd i hi
    exact ⟨by rw [World.cell?_setCell_other (h := n2 _)]; exact e0, by rw [World.cell?_setCell_other (h := n2 _)]; exact e1, by rw [World.cell?_setCell_other (h := n2 _)]; exact e2⟩
end Go.Proofs.Ybulkdvuo
