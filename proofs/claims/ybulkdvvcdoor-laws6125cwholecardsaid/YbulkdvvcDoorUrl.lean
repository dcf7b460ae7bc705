import Derived.Test.YbulkdvvcDoorMap
namespace Go.Proofs.YbulkdvvcDoor
open Go.RowKit
set_option linter.unusedSimpArgs false

theorem not_star {p : ByteArray} (h : AlL p.data.toList) : (p.toList == [42]) = false := by
  rw [beq_eq_false_iff_ne, Lib.toList_data]
  intro e
  have := h 42 (by rw [e]; simp)
  rcases this with h | h | h | h | h <;> simp at h

set_option maxRecDepth 20000 in
/-- (*URL).EscapedPath where nothing is to be escaped -/
theorem escapedPath_any (ub : Nat) (p : ByteArray) (w : World) (hs : p.size ≤ 1000000) (hal : AlL p.data.toList) (ht : Tab w)
    (c4 : w.cell? ⟨ub, 4, none⟩ = some (.string p)) (c7 : w.cell? ⟨ub, 7, none⟩ = some (.string ⟨#[]⟩)) :
    Calls Ybad.prog 17 #[.pointer (some ⟨ub, 0, none⟩)] w fun e w' => e = .returned (.string p) ∧ Below w.heap.size w w' := by
  have hst := not_star hal
  have HA : Hid (AlL p.data.toList) := hal
  clear hal
  go_enter Ybad.func17, Ybad.ntmps17
  go_wp2_with (go_at_call 21; refine (escape_any _ _ hs HA.out ht).mono ?_; rintro e w' ⟨rfl, hb⟩)
  go_ret
  exact ⟨rfl, by assumption⟩

set_option maxRecDepth 20000 in
/-- (*URL).setPath where nothing is to be escaped: Path is p, RawPath is empty -/
theorem setPath_any (ub : Nat) (p o4 o7 : ByteArray) (w : World) (hs : p.size ≤ 1000000) (hal : AlL p.data.toList) (ht : Tab w) (hu : 0 < ub) (hlt : ub < w.heap.size)
    (c4 : w.cell? ⟨ub, 4, none⟩ = some (.string o4)) (f4 : w.frozen? ⟨ub, 4, none⟩ = false) (c7 : w.cell? ⟨ub, 7, none⟩ = some (.string o7)) (f7 : w.frozen? ⟨ub, 7, none⟩ = false) :
    Calls Ybad.prog 18 #[.pointer (some ⟨ub, 0, none⟩), .string p] w fun e w' => e = .returned .nilIface ∧ ∃ w1, Below w.heap.size (w.setCell ⟨ub, 4, none⟩ (.string p)) w1 ∧ w' = w1.setCell ⟨ub, 7, none⟩ (.string ⟨#[]⟩) := by
  have HA : Hid (AlL p.data.toList) := hal
  clear hal
  go_enter Ybad.func18, Ybad.ntmps18
  go_wp2_with fail
  refine (unescape_any _ _ hs HA.out).mono ?_
  rintro e w' ⟨rfl, rfl⟩
  go_wp2_with fail
  have ht' : Tab (w'.setCell ⟨ub, 4, none⟩ (.string p)) := ht.below ((Below.refl 1 w').setCell (by exact hu) _) (by omega)
  refine (escape_any _ _ hs HA.out ht').mono ?_
  rintro e w1 ⟨rfl, hb⟩
  have hsz : (w'.setCell ⟨ub, 4, none⟩ (.string p)).heap.size = w'.heap.size := by simp
  rw [hsz] at hb
  have d7 : w1.cell? ⟨ub, 7, none⟩ = some (.string o7) := (hb.cell (by exact hlt)).trans (by simpa [go_sem] using c7)
  have g7 : w1.frozen? ⟨ub, 7, none⟩ = false := (hb.frozen (by exact hlt)).trans (by simpa [go_sem] using f7)
  clear ht'
  go_wp2_with fail
  go_ret
  exact ⟨rfl, w1, hb, rfl⟩

theorem cell_blk {w : World} {b k : Nat} {cs : Array Value} {t : TypeId} (h : w.heap[b]? = some (.cells cs t (0, 0))) : w.cell? ⟨b, k, none⟩ = cs[k]? := by
  unfold World.cell?; simp [h]
theorem frozen_blk {w : World} {b k : Nat} {cs : Array Value} {t : TypeId} (h : w.heap[b]? = some (.cells cs t (0, 0))) : w.frozen? ⟨b, k, none⟩ = false := by
  unfold World.frozen?; simp [h]
theorem blk_setCell {w : World} {b k : Nat} {cs : Array Value} {t : TypeId} (h : w.heap[b]? = some (.cells cs t (0, 0))) (v : Value) :
    (w.setCell ⟨b, k, none⟩ v).heap[b]? = some (.cells (cs.setIfInBounds k v) t (0, 0)) := by
  simp [World.setCell, Array.getElem?_modify, h]
theorem blk_lt {w : World} {b : Nat} {o : Obj} (h : w.heap[b]? = some o) : b < w.heap.size := (Array.getElem?_eq_some_iff.1 h).1

/-- a URL's cells -/
def ucs (sch host p frag rq raw : ByteArray) : Array Value :=
  #[.string sch, .string ⟨#[]⟩, .pointer none, .string host, .string p, .string frag, .string rq, .string raw, .string ⟨#[]⟩, .bool false, .bool false]

/-- (*URL).setPath, the block told whole -/
theorem setPath_blk (ub : Nat) (sch host p0 frag rq raw p : ByteArray) (w : World) (hs : p.size ≤ 1000000) (hal : AlL p.data.toList) (ht : Tab w) (hu : 0 < ub)
    (hb : w.heap[ub]? = some (.cells (ucs sch host p0 frag rq raw) 26 (0, 0))) :
    Calls Ybad.prog 18 #[.pointer (some ⟨ub, 0, none⟩), .string p] w fun e w' => e = .returned .nilIface ∧ w.grownBy w' (some ub) ∧ w'.heap[ub]? = some (.cells (ucs sch host p frag rq ⟨#[]⟩) 26 (0, 0)) := by
  have hlt := blk_lt hb
  refine (setPath_any ub p p0 raw w hs hal ht hu hlt ((cell_blk hb).trans rfl) (frozen_blk hb) ((cell_blk hb).trans rfl) (frozen_blk hb)).mono ?_
  rintro e w' ⟨rfl, w1, hbl, rfl⟩
  have h1 := blk_setCell (k := 4) hb (.string p)
  have h2 : w1.heap[ub]? = _ := (hbl.block ub hlt).trans h1
  have h3 := blk_setCell (k := 7) h2 (.string ⟨#[]⟩)
  refine ⟨rfl, ⟨hbl.os, hbl.tape, hbl.output, by have := hbl.size; simpa using this, fun k hk hne => ?_⟩, h3.trans rfl⟩
  have hne' : k ≠ ub := fun e => hne (by rw [e])
  rw [Below.heap_setCell _ _ _ _ hne', hbl.block k hk, Below.heap_setCell _ _ _ _ hne']
end Go.Proofs.YbulkdvvcDoor
