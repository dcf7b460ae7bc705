import Derived.Test.YbulkdvwePlain
import Derived.Laws.Tables
import Derived.Great.BuildSlice
namespace Go.Proofs.Ybulkdvwe
open Go.RowKit
open Extern.Stop (cell)
set_option linter.unusedSimpArgs false

theorem fold_set {off : Nat} : ∀ (vs old pre post : List Value) (k : Nat), old.length = vs.length → pre.length = off + k →
    (vs.zipIdx k).foldl (fun (cs : Array Value) (x : Value × Nat) => cs.setIfInBounds (off + x.2) x.1) (pre ++ old ++ post).toArray = (pre ++ vs ++ post).toArray
  | [], old, pre, post, k, h, _ => by
    have : old = [] := List.eq_nil_of_length_eq_zero (by simpa using h)
    subst this; simp
  | v :: vs, [], pre, post, k, h, _ => by simp at h
  | v :: vs, o :: old, pre, post, k, h, hp => by
    have ih := fold_set (off := off) vs old (pre ++ [v]) post (k + 1) (by simpa using h) (by simp; omega)
    simp only [List.zipIdx_cons, List.foldl_cons]
    have hs : (pre ++ o :: old ++ post).toArray.setIfInBounds (off + k) v = (pre ++ [v] ++ old ++ post).toArray := by
      rw [List.setIfInBounds_toArray, ← hp]; simp
    rw [hs, ih]; simp
theorem fold_arr {off : Nat} (vs old pre post : List Value) (h : old.length = vs.length) (hp : pre.length = off) :
    vs.toArray.zipIdx.foldl (fun (cs : Array Value) (x : Value × Nat) => cs.setIfInBounds (off + x.2) x.1) (pre ++ old ++ post).toArray = (pre ++ vs ++ post).toArray := by
  rw [← Array.foldl_toList, Array.toList_zipIdx]
  exact fold_set vs old pre post 0 h (by simpa using hp)
/-- one part of a literal, its cells whatever -/
theorem fill_part {place : Nat → Option (Nat × Nat)} {i off n : Nat} {vs old pre post : List Value} {rest : List (Nat × Value)} (hpl : place i = some (off, n)) (hn : vs.length = n) (ho : old.length = n) (hp : pre.length = off) :
    Instr.fill place (pre ++ old ++ post).toArray ((i, .agg vs.toArray) :: rest) = Instr.fill place (pre ++ vs ++ post).toArray rest := by
  rw [Instr.fill, hpl]
  have h2 : ¬ (off + vs.length > (pre ++ old ++ post).length) := by simp; omega
  simp only [Value.cells, List.size_toArray]
  rw [if_neg (by simp [hn] at h2 ⊢; omega), fold_arr vs old pre post (by omega) hp]

theorem built_struct {P : Program} {t : TypeId} {fs : Array Field} {z : Value} {places : List (Nat × Nat)} (hz : (P.info? t).bind (·.zero) = some z) (hu : P.underlying t = some (.struct fs))
    (hp : fs.toList.mapM (fun f => (P.info? f.type).map fun i => (f.offset, i.size)) = some places) (parts : List (Nat × Value)) : P.built t parts = Instr.fill (places.toArray[·]?) z.cells parts := by
  unfold Program.built
  cases hi : P.info? t with
  | none => rw [hi] at hz; cases hz
  | some it =>
    rw [hi] at hz
    simp only [Option.bind_some] at hz
    simp only [hu, hz, hp]

def z4 : List Value := [.int .u64 0, .int .u64 0, .pointer none, .int .u16 0]
def z3 : List Value := [.int .u64 0, .int .i64 0, .pointer none]
def zk : List Value := [.int .i64 0]
def z20 : List Value := List.replicate 20 (.int .u8 0)
theorem build_con (x : Ent) (hx : x.ok) (w : World) : (Instr.build 62 #[(0, .agg (x.id.map cell).toArray), (1, .agg #[.int .u64 0, .int .u64 0, .pointer none, .int .u16 x.p])]).run Yba.prog w = .ok (.agg x.con.toArray) w := by
  have hl : (x.id.map cell).length = 20 := by simp [hx.2.1]
  refine run_build w 62 _ _ ?_
  rw [built_struct (z := .agg (([] : List Value) ++ z20 ++ z4).toArray) (places := [(0, 20), (20, 4)]) (by kernel_rfl) Yba.underlying62 (by kernel_rfl)]
  show Instr.fill _ (([] : List Value) ++ z20 ++ z4).toArray [(0, .agg (x.id.map cell).toArray), (1, .agg [Value.int .u64 0, .int .u64 0, .pointer none, .int .u16 x.p].toArray)] = _
  rw [fill_part (off := 0) (n := 20) rfl hl rfl rfl]
  rw [show ([] : List Value) ++ x.id.map cell ++ z4 = x.id.map cell ++ z4 ++ [] by simp]
  rw [fill_part (off := 20) (n := 4) rfl (by simp) rfl hl]
  simp [Instr.fill, Ent.con]
/-- the three cells of a Time -/
def tmc (d : Int) : List Value := [.int .u64 (d % 1000000000), .int .i64 (d / 1000000000), .pointer none]
theorem build_ent (x : Ent) (hx : x.ok) (w : World) : (Instr.build 65 #[(0, .agg x.con.toArray), (1, .agg #[.int .u64 (x.an % 1000000000), .int .i64 (x.an / 1000000000), .pointer none]), (2, .agg #[.int .u64 (x.qu % 1000000000), .int .i64 (x.qu / 1000000000), .pointer none])]).run Yba.prog w = .ok (.agg x.ent.toArray) w := by
  have hl := Ent.con_length hx
  refine run_build w 65 _ _ ?_
  rw [built_struct (z := .agg (([] : List Value) ++ (z20 ++ z4) ++ (z3 ++ z3)).toArray) (places := [(0, 24), (24, 3), (27, 3)]) (by kernel_rfl) Yba.underlying65 (by kernel_rfl)]
  show Instr.fill _ (([] : List Value) ++ (z20 ++ z4) ++ (z3 ++ z3)).toArray [(0, .agg x.con.toArray), (1, .agg (tmc x.an).toArray), (2, .agg (tmc x.qu).toArray)] = _
  rw [fill_part (off := 0) (n := 24) rfl hl rfl rfl]
  rw [show ([] : List Value) ++ x.con ++ (z3 ++ z3) = x.con ++ z3 ++ z3 by simp]
  rw [fill_part (off := 24) (n := 3) rfl (by simp [tmc]) rfl hl]
  rw [show x.con ++ tmc x.an ++ z3 = x.con ++ tmc x.an ++ z3 ++ [] by simp]
  rw [fill_part (off := 27) (n := 3) rfl (by simp [tmc]) rfl (by simp [tmc, hl])]
  simp [Instr.fill, Ent.ent, tmc]
/-- the table's cells behind its self and k -/
def tailCells : List Value := [.int .i32 0, .int .u32 0] ++ List.replicate 160 (.slice none 0 0) ++ (List.replicate 161 [Value.int .u64 0, .int .i64 0, .pointer none]).flatten
theorem build_tab (self : List UInt8) (k : Int) (hs : self.length = 20) (w : World) : (Instr.build 55 #[(0, .agg (self.map cell).toArray), (1, .int .i64 k)]).run Yba.prog w = .ok (.agg (self.map cell ++ ([Value.int .i64 k] ++ tailCells)).toArray) w := by
  have hl : (self.map cell).length = 20 := by simp [hs]
  refine run_build w 55 _ _ ?_
  rw [built_struct (z := .agg (([] : List Value) ++ z20 ++ (zk ++ tailCells)).toArray) (places := [(0, 20), (20, 1), (21, 2), (23, 160), (183, 483)]) (by kernel_rfl) Yba.underlying55 (by kernel_rfl)]
  show Instr.fill _ (([] : List Value) ++ z20 ++ (zk ++ tailCells)).toArray [(0, .agg (self.map cell).toArray), (1, .int .i64 k)] = _
  rw [fill_part (off := 0) (n := 20) rfl hl rfl rfl]
  generalize tailCells = T
  have hlt : ¬ ((Value.int .i64 k).cells.size ≠ 1 || decide (20 + (Value.int .i64 k).cells.size > (([] : List Value) ++ self.map cell ++ (zk ++ T)).toArray.size)) = true := by
    simp [Value.cells, hs, zk]; omega
  rw [Instr.fill]
  simp only [show ([(0, 20), (20, 1), (21, 2), (23, 160), (183, 483)] : List (Nat × Nat)).toArray[1]? = some (20, 1) from rfl]
  rw [if_neg hlt, Instr.fill]
  simp [Value.cells, ← hs, List.set_append, zk]
theorem fold_zero (vs old post : List Value) (h : old.length = vs.length) : List.foldl (fun (cs : Array Value) (x : Value × Nat) => cs.setIfInBounds x.snd x.fst) (old ++ post).toArray vs.zipIdx = (vs ++ post).toArray := by
  have := fold_set (off := 0) vs old [] post 0 h rfl
  simpa using this
/-- the walk's own form of the literal's run: a contact -/
theorem con_fold (x : Ent) (hx : x.ok) : ∃ Y : Array Value, List.foldl (fun (cs : Array Value) (x : Value × Nat) => cs.setIfInBounds x.snd x.fst) #[.int .u8 0, .int .u8 0, .int .u8 0, .int .u8 0, .int .u8 0, .int .u8 0, .int .u8 0, .int .u8 0, .int .u8 0, .int .u8 0, .int .u8 0, .int .u8 0, .int .u8 0, .int .u8 0, .int .u8 0, .int .u8 0, .int .u8 0, .int .u8 0, .int .u8 0, .int .u8 0, .int .u64 0, .int .u64 0, .pointer none, .int .u16 0] (List.map cell x.id).zipIdx = Y ∧ Y.size = 24 ∧
    (((Y.setIfInBounds 20 (.int .u64 0)).setIfInBounds 21 (.int .u64 0)).setIfInBounds 22 (.pointer none)).setIfInBounds 23 (.int .u16 x.p) = x.con.toArray := by
  have hl : (x.id.map cell).length = 20 := by simp [hx.2.1]
  refine ⟨(x.id.map cell ++ z4).toArray, fold_zero (x.id.map cell) z20 z4 (by rw [hl]; rfl), by simp [hx.2.1, z4], ?_⟩
  rw [Ent.con]
  generalize x.id.map cell = L at hl
  simp [List.set_append, hl, z4]
/-- .. and an entry -/
theorem ent_fold (x : Ent) (hx : x.ok) : ∃ Y : Array Value, List.foldl (fun (cs : Array Value) (x : Value × Nat) => cs.setIfInBounds x.snd x.fst) #[.int .u8 0, .int .u8 0, .int .u8 0, .int .u8 0, .int .u8 0, .int .u8 0, .int .u8 0, .int .u8 0, .int .u8 0, .int .u8 0, .int .u8 0, .int .u8 0, .int .u8 0, .int .u8 0, .int .u8 0, .int .u8 0, .int .u8 0, .int .u8 0, .int .u8 0, .int .u8 0, .int .u64 0, .int .u64 0, .pointer none, .int .u16 0, .int .u64 0, .int .i64 0, .pointer none, .int .u64 0, .int .i64 0, .pointer none] x.con.zipIdx = Y ∧ Y.size = 30 ∧
    (((((Y.setIfInBounds 24 (.int .u64 (x.an % 1000000000))).setIfInBounds 25 (.int .i64 (x.an / 1000000000))).setIfInBounds 26 (.pointer none)).setIfInBounds 27 (.int .u64 (x.qu % 1000000000))).setIfInBounds 28 (.int .i64 (x.qu / 1000000000))).setIfInBounds 29 (.pointer none) = x.ent.toArray := by
  have hl := Ent.con_length hx
  refine ⟨(x.con ++ (z3 ++ z3)).toArray, fold_zero x.con (z20 ++ z4) (z3 ++ z3) (by rw [hl]; rfl), by simp [hl, z3], ?_⟩
  rw [Ent.ent]
  generalize x.con = L at hl
  simp [List.set_append, hl, z3]
end Go.Proofs.Ybulkdvwe
