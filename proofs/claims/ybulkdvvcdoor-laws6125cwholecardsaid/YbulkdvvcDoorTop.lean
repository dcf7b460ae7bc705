import Derived.Test.YbulkdvvcDoorJoin2
namespace Go.Proofs.YbulkdvvcDoor
open Go.RowKit Go.Lib
set_option linter.unusedSimpArgs false

def P3 (p e : ByteArray) : ByteArray := if pre (P2 p e) = true then P2 p e else sl ++ P2 p e
theorem P1_size (p e : ByteArray) (hp : p.size ≤ 65536) (he : e.size ≤ 65536) (ap : AlL p.data.toList) (ae : AlL e.data.toList) : (P1 p e).size ≤ 200000 := by
  have F := facts p e hp he ap ae
  unfold P1
  split
  · exact (F.j1 ‹_›).1
  · have := (F.j2 (by simpa using ‹¬ pre p = true›)).2.1
    rw [ByteArray.size_extract]; omega
theorem P2_size (p e : ByteArray) (hp : p.size ≤ 65536) (he : e.size ≤ 65536) (ap : AlL p.data.toList) (ae : AlL e.data.toList) : (P2 p e).size ≤ 200001 := by
  have h1 := P1_size p e hp he ap ae
  unfold P2
  split
  · rw [ByteArray.size_append]; exact Nat.add_le_add h1 (Nat.le_refl _)
  · omega

set_option maxRecDepth 20000 in
/-- (*URL).JoinPath -/
theorem JoinPath_any (ub eb : Nat) (sch host p frag rq e : ByteArray) (w : World) (hp : p.size ≤ 65536) (he : e.size ≤ 65536) (hal : AlL p.data.toList) (hae : AlL e.data.toList) (ht : Tab w) (hu : 0 < ub)
    (hub : w.heap[ub]? = some (.cells (ucs sch host p frag rq ⟨#[]⟩) 26 (0, 0))) (heb : eb < w.heap.size) (ce : w.cell? ⟨eb, 0, none⟩ = some (.string e)) :
    Calls Ybad.prog 9 #[.pointer (some ⟨ub, 0, none⟩), .slice (some ⟨eb, 0, none⟩) 1 1] w fun x w' =>
      ∃ nb, x = .returned (.pointer (some ⟨nb, 0, none⟩)) ∧ w.heap.size ≤ nb ∧ w'.heap[nb]? = some (.cells (ucs sch host (P2 p e) frag rq ⟨#[]⟩) 26 (0, 0)) ∧ Below w.heap.size w w' := by
  have H := joinPath_any ub eb sch host p frag rq e w hp he hal hae ht hu hub heb ce
  clear hub ce
  go_enter Ybad.func9, Ybad.ntmps9
  go_wp2_with fail
  refine H.mono ?_
  rintro x w1 ⟨nb, rfl, h1, h2, h3⟩
  clear H
  have H2 : Hid (w1.heap[nb]? = some (.cells (ucs sch host (P2 p e) frag rq ⟨#[]⟩) 26 (0, 0))) := h2
  clear h2
  go_wp2_with fail
  go_ret
  exact ⟨nb, rfl, h1, H2.out, h3⟩

set_option maxRecDepth 20000 in
/-- bench.joinPath -/
theorem benchJoin_any (ub : Nat) (sch host p frag rq e : ByteArray) (w : World) (hp : p.size ≤ 65536) (he : e.size ≤ 65536) (hal : AlL p.data.toList) (hae : AlL e.data.toList) (ht : Tab w) (hu : 0 < ub)
    (hub : w.heap[ub]? = some (.cells (ucs sch host p frag rq ⟨#[]⟩) 26 (0, 0))) :
    Calls Ybad.prog 5 #[.pointer (some ⟨ub, 0, none⟩), .string e] w fun x w' =>
      ∃ nb, x = .returned (.pointer (some ⟨nb, 0, none⟩)) ∧ w.heap.size ≤ nb ∧ w'.heap[nb]? = some (.cells (ucs sch host (P3 p e) frag rq ⟨#[]⟩) 26 (0, 0)) ∧ Below w.heap.size w w' := by
  have hlt := blk_lt hub
  have hsz := P2_size p e hp he hal hae
  have hB : Below w.heap.size w (w.alloc (.cells #[.string e] 9)) := (Below.refl _ _).alloc (Nat.le_refl _) _
  have H := JoinPath_any ub w.heap.size sch host p frag rq e (w.alloc (.cells #[.string e] 9)) hp he hal hae (ht.below hB ht.lt) hu ((hB.block ub hlt).trans hub) (by simp) (by simp)
  have HB : Hid (Below w.heap.size w (w.alloc (.cells #[.string e] 9))) := hB
  clear hub hB
  go_enter Ybad.func5, Ybad.ntmps5
  go_wp2_with fail
  refine H.mono ?_
  rintro x w1 ⟨nb, rfl, h1, h2, h3⟩
  clear H
  have c4 : w1.cell? ⟨nb, 4, none⟩ = some (.string (P2 p e)) := (cell_blk h2).trans rfl
  have f4 : w1.frozen? ⟨nb, 4, none⟩ = false := frozen_blk h2
  have h4 := blk_setCell (k := 4) h2 (.string (sl ++ P2 p e))
  have H2 : Hid (w1.heap[nb]? = some (.cells (ucs sch host (P2 p e) frag rq ⟨#[]⟩) 26 (0, 0))) := h2
  have H4 : Hid ((w1.setCell ⟨nb, 4, none⟩ (.string (sl ++ P2 p e))).heap[nb]? = some (.cells (ucs sch host (sl ++ P2 p e) frag rq ⟨#[]⟩) 26 (0, 0))) := h4
  have hn : w.heap.size + 1 ≤ nb := by simpa using h1
  have hb3 : Below w.heap.size w w1 := HB.out.trans (h3.mono (by simp))
  clear h2 h4 h1 h3
  go_wp2_with fail
  refine (hasPrefix_any _ _).mono ?_
  rintro x w2 ⟨rfl, rfl⟩
  by_cases hpre : pre (P2 p e) = true
  · rw [hpre]
    have HY : Hid (P3 p e = P2 p e) := by unfold P3; rw [if_pos hpre]; rfl
    go_wp2_with fail
    go_ret
    exact ⟨nb, rfl, by omega, by rw [HY.out]; exact H2.out, hb3⟩
  · have hpre' : pre (P2 p e) = false := by simpa using hpre
    rw [hpre']
    have HY : Hid (P3 p e = sl ++ P2 p e) := by unfold P3; rw [if_neg hpre]; rfl
    go_wp2_with fail
    go_ret
    exact ⟨nb, rfl, by omega, by rw [HY.out]; exact H4.out, hb3.setCell (p := ⟨nb, 4, none⟩) (by exact Nat.le_of_succ_le hn) _⟩
end Go.Proofs.YbulkdvvcDoor
