import Derived.Test.YbulkdvweContact
namespace Go.Proofs.Ybulkdvwe
open Go.RowKit
open Extern.Stop (cell)
set_option linter.unusedSimpArgs false

theorem part_agg {P : Program} (w : World) (t : TypeId) (n : Nat) (hA : ∀ w, (isAgg t).run P w = .ok true w) (hS : ∀ w, (Go.sizeOf t).run P w = .ok n w) (pre cs post : List Value) (o : Nat) (hl : cs.length = n) (ho : pre.length = o) :
    (part t (pre ++ cs ++ post).toArray o).run P w = .ok (.agg cs.toArray) w := by
  simp only [part, Sem.run_bind, hA, hS, Result.andThen_ok, if_true, Sem.run_pure]
  congr 2
  subst hl ho
  simp [List.extract_eq_take_drop]
theorem eq43 (w : World) (d : Nat) (xs : List UInt8) (h : xs.length = 20) : (Op.equalIn (d + 2) 43 (.agg (xs.map cell).toArray) (.agg (xs.map cell).toArray)).run Yba.prog w = .ok true w := by
  rw [run_equalIn_bytes w d 43 5 20 Yba.underlying43 Yba.underlying5 Yba.sizeOf5 xs xs h h]; simp
theorem eq60 (w : World) (d : Nat) (p : Int) : (Op.equalIn (d + 7) 60 (.agg #[.int .u64 0, .int .u64 0, .pointer none, .int .u16 p]) (.agg #[.int .u64 0, .int .u64 0, .pointer none, .int .u16 p])).run Yba.prog w = .ok true w := by
  have hp' := fun (d : Nat) (w : World) => run_equalIn_pointer_nil (P := Yba.prog) w d 31 none (by kernel_rfl)
  go_simp
theorem eq25 (w : World) (d : Nat) (a b : Int) : (Op.equalIn (d + 7) 25 (.agg #[.int .u64 a, .int .i64 b, .pointer none]) (.agg #[.int .u64 a, .int .i64 b, .pointer none])).run Yba.prog w = .ok true w := by
  have hp := fun (d : Nat) (w : World) => run_equalIn_pointer_nil (P := Yba.prog) w d 23 none (by kernel_rfl)
  go_simp
theorem eq62 (w : World) (d : Nat) (x : Ent) (hx : x.ok) : (Op.equalIn (d + 8) 62 (.agg x.con.toArray) (.agg x.con.toArray)).run Yba.prog w = .ok true w := by
  rw [run_equalIn_struct w (d + 7) 62 _ _ (by rw [Yba.underlying62]; simp [Program.fieldsOf, Yba.underlying62]) Yba.stoodInHeld62]
  have hl : (x.id.map cell).length = 20 := by simp [hx.2.1]
  have p0 := fun w => part_agg (P := Yba.prog) w 43 20 Yba.isAgg43 Yba.sizeOf43 [] (x.id.map cell) [.int .u64 0, .int .u64 0, .pointer none, .int .u16 x.p] 0 hl rfl
  have p1 := fun w => part_agg (P := Yba.prog) w 60 4 Yba.isAgg60 Yba.sizeOf60 (x.id.map cell) [.int .u64 0, .int .u64 0, .pointer none, .int .u16 x.p] [] 20 rfl hl
  rw [List.nil_append] at p0
  rw [List.append_nil] at p1
  have e0 := eq43 (w := w) (d := d + 5) x.id hx.2.1
  have e1 := eq60 (w := w) (d := d) x.p
  rw [show d + 5 + 2 = d + 7 from rfl] at e0
  simp [Program.fieldsOf, Yba.underlying62, Op.eqFields, Ent.con, p0, p1, e0, e1]
theorem eq65 (w : World) (d : Nat) (x : Ent) (hx : x.ok) : (Op.equalIn (d + 9) 65 (.agg x.ent.toArray) (.agg x.ent.toArray)).run Yba.prog w = .ok true w := by
  rw [run_equalIn_struct w (d + 8) 65 _ _ (by rw [Yba.underlying65]; simp [Program.fieldsOf, Yba.underlying65]) Yba.stoodInHeld65]
  have hl := Ent.con_length hx
  have p0 := fun w => part_agg (P := Yba.prog) w 62 24 Yba.isAgg62 Yba.sizeOf62 [] x.con (tmc x.an ++ tmc x.qu) 0 hl rfl
  have p1 := fun w => part_agg (P := Yba.prog) w 25 3 Yba.isAgg25 Yba.sizeOf25 x.con (tmc x.an) (tmc x.qu) 24 rfl hl
  have p2 := fun w => part_agg (P := Yba.prog) w 25 3 Yba.isAgg25 Yba.sizeOf25 (x.con ++ tmc x.an) (tmc x.qu) [] 27 rfl (by simp [hl, tmc])
  have hs : x.ent = x.con ++ tmc x.an ++ tmc x.qu := by simp [Ent.ent, tmc]
  rw [List.nil_append, ← List.append_assoc, ← hs] at p0
  rw [← hs] at p1
  rw [List.append_nil, ← hs] at p2
  have e0 := eq62 (w := w) (d := d) x hx
  have e1 := eq25 (w := w) (d := d + 1) (x.an % 1000000000) (x.an / 1000000000)
  have e2 := eq25 (w := w) (d := d + 1) (x.qu % 1000000000) (x.qu / 1000000000)
  rw [show d + 1 + 7 = d + 8 from rfl] at e1 e2
  simp [Program.fieldsOf, Yba.underlying65, Op.eqFields, p0, p1, p2, e0, tmc, e1, e2]
end Go.Proofs.Ybulkdvwe
