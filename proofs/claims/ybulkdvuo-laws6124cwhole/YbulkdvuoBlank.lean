import Derived.Test.YbulkdvuoMg
namespace Go.Proofs.Ybulkdvuo
open Go.RowKit
set_option linter.unusedSimpArgs false

theorem alloc_at {w : World} {o : Obj} {k : Nat} (h : w.heap.size = k) : (w.alloc o).heap[k]? = some o := by subst h; exact heap_alloc_new w o
theorem alloc_bef {w : World} {o x : Obj} {k : Nat} (h : w.heap[k]? = some x) : (w.alloc o).heap[k]? = some x :=
  (Go.Deep.blk_alloc_lt w o k (Array.getElem?_eq_some_iff.1 h).1).trans h
/-- one part of one cell -/
theorem fill_one {place : Nat → Option (Nat × Nat)} {i off : Nat} {v : Value} {L : List Value} {rest : List (Nat × Value)} (hpl : place i = some (off, 1)) (hv : v.cells = #[v]) (ho : off < L.length) :
    Instr.fill place L.toArray ((i, v) :: rest) = Instr.fill place (L.set off v).toArray rest := by
  rw [Instr.fill, hpl]
  simp only [hv]
  rw [if_neg (by simp; omega)]
  simp
/-- one part of four cells -/
theorem fill_four {place : Nat → Option (Nat × Nat)} {i off : Nat} {a b c d : Value} {L : List Value} {rest : List (Nat × Value)} (hpl : place i = some (off, 4)) (ho : off + 4 ≤ L.length) :
    Instr.fill place L.toArray ((i, .agg #[a, b, c, d]) :: rest) = Instr.fill place ((((L.set off a).set (off + 1) b).set (off + 2) c).set (off + 3) d).toArray rest := by
  rw [Instr.fill, hpl]
  have h4 : ¬ (L.length < off + 4) := by omega
  simp [Value.cells, h4]
/-- the cells of a blank Member -/
def memCells (Z : List Value) (id T r P : Int) (b : Nat) : List Value :=
  ((((((((((((((((Z.set 0 (.int .i64 id)).set 1 (.int .i64 T)).set 2 (.int .i64 r)).set 3 (.int .i64 P)).set 4 (.int .i64 0)).set 5 (.bool true)).set 6 (.int .u8 15)).set 33 (.map (some b))).set 35 (.map (some (b + 1)))).set 36 (.map (some (b + 2)))).set 57 (.map (some (b + 3)))).set 58 (.map (some (b + 4)))).set 60 (.map (some (b + 5)))).set 54 (.map (some (b + 6)))).set 55 (.map (some (b + 7)))).set 53 (.map (some (b + 8))))
theorem zero81 : ∃ Z : List Value, (Yba.prog.info? 81).bind (·.zero) = some (.agg Z.toArray) ∧ Z.length = 74 ∧ Z[8]? = some (.slice none 0 0) ∧ Z[15]? = some (.string ⟨#[]⟩) ∧ Z[30]? = some (.int .i64 0) ∧ Z[37]? = some (.map none) ∧ Z[39]? = some (.slice none 0 0) ∧ Z[42]? = some (.slice none 0 0) := by
  have h : ((Yba.prog.info? 81).bind (·.zero)).bind (fun z => match z with | .agg c => some (c.size, c[8]?, c[15]?, c[30]?, c[37]?, c[39]?, c[42]?) | _ => none) = some (74, some (.slice none 0 0), some (.string ⟨#[]⟩), some (.int .i64 0), some (.map none), some (.slice none 0 0), some (.slice none 0 0)) := by kernel_rfl
  cases hz : (Yba.prog.info? 81).bind (·.zero) with
  | none => rw [hz] at h; cases h
  | some z =>
    rw [hz] at h
    simp only [Option.bind_some] at h
    split at h
    · rename_i c
      simp only [Option.some.injEq, Prod.mk.injEq] at h
      refine ⟨c.toList, by simp, by simpa using h.1, by simpa using h.2.1, by simpa using h.2.2.1, by simpa using h.2.2.2.1, by simpa using h.2.2.2.2.1, by simpa using h.2.2.2.2.2.1, by simpa using h.2.2.2.2.2.2⟩
    · cases h
theorem build_mem (Z : List Value) (hZ : (Yba.prog.info? 81).bind (·.zero) = some (.agg Z.toArray)) (hl : Z.length = 74) (id T r P : Int) (b : Nat) (w : World) :
    (Instr.build 81 #[(0, .int .i64 id), (1, .agg #[.int .i64 T, .int .i64 r, .int .i64 P, .int .i64 0]), (2, .bool true), (3, .int .u8 15), (12, .map (some b)), (14, .map (some (b + 1))), (15, .map (some (b + 2))), (35, .map (some (b + 3))), (36, .map (some (b + 4))), (38, .map (some (b + 5))), (32, .map (some (b + 6))), (33, .map (some (b + 7))), (31, .map (some (b + 8)))]).run Yba.prog w = .ok (.agg (memCells Z id T r P b).toArray) w := by
  refine run_build w 81 _ _ ?_
  rw [built_struct (z := .agg Z.toArray) (places := [(0, 1), (1, 4), (5, 1), (6, 1), (7, 1), (8, 1), (9, 2), (11, 4), (15, 15), (30, 1), (31, 1), (32, 1), (33, 1), (34, 1), (35, 1), (36, 1), (37, 2), (39, 1), (40, 1), (41, 1), (42, 1), (43, 1), (44, 1), (45, 1), (46, 1), (47, 1), (48, 1), (49, 1), (50, 1), (51, 1), (52, 1), (53, 1), (54, 1), (55, 1), (56, 1), (57, 1), (58, 1), (59, 1), (60, 1), (61, 2), (63, 2), (65, 1), (66, 1), (67, 2), (69, 1), (70, 1), (71, 1), (72, 2)]) hZ Yba.underlying81 (by kernel_rfl)]
  show Instr.fill _ Z.toArray _ = _
  simp only [Array.toList]
  rw [fill_one (off := 0) rfl rfl (by omega), fill_four (off := 1) rfl (by simp; omega)]
  rw [fill_one (off := 5) rfl rfl (by simp; omega), fill_one (off := 6) rfl rfl (by simp; omega), fill_one (off := 33) rfl rfl (by simp; omega), fill_one (off := 35) rfl rfl (by simp; omega), fill_one (off := 36) rfl rfl (by simp; omega), fill_one (off := 57) rfl rfl (by simp; omega), fill_one (off := 58) rfl rfl (by simp; omega), fill_one (off := 60) rfl rfl (by simp; omega), fill_one (off := 54) rfl rfl (by simp; omega), fill_one (off := 55) rfl rfl (by simp; omega), fill_one (off := 53) rfl rfl (by simp; omega)]
  rfl

set_option maxRecDepth 20000 in
set_option maxHeartbeats 2000000 in
theorem blank_any (id T r P : Int) (w : World) :
    Calls Yba.prog 4 #[.int .i64 id, .agg #[.int .i64 T, .int .i64 r, .int .i64 P, .int .i64 0]] w fun e w' => ∃ Z : List Value, e = .returned (.pointer (some ⟨w.heap.size + 10, 0, none⟩)) ∧ Z.length = 74 ∧ (Z[8]? = some (.slice none 0 0) ∧ Z[15]? = some (.string ⟨#[]⟩) ∧ Z[30]? = some (.int .i64 0) ∧ Z[37]? = some (.map none) ∧ Z[39]? = some (.slice none 0 0) ∧ Z[42]? = some (.slice none 0 0)) ∧
      w'.heap[w.heap.size + 10]? = some (.cells (memCells Z id T r P (w.heap.size + 1)).toArray 81 (0, 0)) ∧ w'.heap[w.heap.size + 1]? = some (.map #[] 0) ∧ w'.heap[w.heap.size + 5]? = some (.map #[] 0) ∧ w'.heap.size = w.heap.size + 11 ∧ Below w.heap.size w w' := by
  obtain ⟨Z, hZ, hl, hz⟩ := zero81
  have hmk : ∀ (t : TypeId) (w : World), (Instr.makeMap t none).run Yba.prog w = .ok (.map (some w.heap.size)) (w.alloc (.map #[] 0)) := fun _ _ => rfl
  have hbm := build_mem Z hZ hl id T r P (w.heap.size + 1)
  go_enter Yba.func4, Yba.ntmps4
  go_wp2_with (refine wpList_build_run rfl 81 _ rfl #[(0, .int .i64 id), (1, .agg #[.int .i64 T, .int .i64 r, .int .i64 P, .int .i64 0]), (2, .bool true), (3, .int .u8 15), (12, .map (some (w.heap.size + 1))), (14, .map (some (w.heap.size + 1 + 1))), (15, .map (some (w.heap.size + 1 + 2))), (35, .map (some (w.heap.size + 1 + 3))), (36, .map (some (w.heap.size + 1 + 4))), (38, .map (some (w.heap.size + 1 + 5))), (32, .map (some (w.heap.size + 1 + 6))), (33, .map (some (w.heap.size + 1 + 7))), (31, .map (some (w.heap.size + 1 + 8)))] rfl _ hbm ?_)
  go_ret
  refine ⟨Z, rfl, hl, hz, ?_, ?_, ?_, ?_, ?_⟩
  · repeat (first | (refine alloc_at ?_; simp; done) | (refine alloc_bef ?_))
  · repeat (first | (refine alloc_at ?_; simp; done) | (refine alloc_bef ?_))
  · repeat (first | (refine alloc_at ?_; simp; done) | (refine alloc_bef ?_))
  · simp
  · repeat (first | exact Below.refl _ _ | refine Below.alloc ?_ (by simp <;> omega) _)
/-- messageGaps: no ACK lacks -/
theorem messageGaps_none (mb : Nat) (u : Int) (v : Value) (oa : Option Addr) (oc : Nat) (w : World) (h : w.cell? ⟨mb, 42, none⟩ = some (.slice oa 0 oc)) :
    Calls Yba.prog 8 #[.pointer (some ⟨mb, 0, none⟩), .int .i64 u, v] w fun e w' => e = .returned v ∧ w' = w := by
  go_enter Yba.func8, Yba.ntmps8
  go_wp2
  go_ret
  exact ⟨rfl, rfl⟩
end Go.Proofs.Ybulkdvuo
