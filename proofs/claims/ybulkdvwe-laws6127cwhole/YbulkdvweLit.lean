import Derived.Test.YbulkdvweTab
import Derived.Great.BuildSlice
import Derived.Deep.CutRange
namespace Go.Proofs.Ybulkdvwe
open Go.RowKit
open Extern.Stop (cell)
set_option linter.unusedSimpArgs false
theorem wpList_build_run {P : Program} {ops : Array Oper} {rest : List Oper} {o : Oper} {a : Act} {w : World} {Q : Exit → Act → World → Prop} (hg : o.guard = none) (t : TypeId) (parts : Array (Nat × Operand)) (ho : o.op = .build t parts) (vals : Array (Nat × Value))
    (hv : parts.toList.map (fun x => (x.1, a.eval x.2)) = vals.toList) (c : Value) (hr : ∀ w, (Instr.build t vals).run P w = .ok c w) (h : wpList P ops Q rest (a.put o.dst c) w) : wpList P ops Q (o :: rest) a w :=
  wpList_plain hg fun K hK => by
    have hv' : (parts.map fun x => match x with | (i, x) => (i, a.eval x)) = vals := by
      apply Array.toList_inj.1
      rw [Array.toList_map]; exact hv
    unfold Oper.wp execOp
    simp only [ho, hv', hr, Sem.run_bind, Result.andThen_ok]
    exact hK _ _ h
theorem gen_any {P : Program} {md : Region.Mode} {ops : Array Oper} {Q : Exit → Act → World → Prop} {S : World → Prop} {n : Nat} {l : Array Bool} {a : Act} {w : World} (F : World → Prop) (h : F w) (k : ∀ w', F w' → wpAnyH P md ops Q S n l a w') : wpAnyH P md ops Q S n l a w := k w h

/-- the zero value of the buckets' array -/
def nil160 : List Value := List.replicate 160 (.slice none 0 0)
theorem zero52 (w : World) : (zeroValue 52).run Yba.prog w = .ok (.agg nil160.toArray) w := by
  have h : (Yba.prog.info? 52).bind (·.zero) = some (.agg nil160.toArray) := by kernel_rfl
  cases hi : Yba.prog.info? 52 with
  | none => rw [hi] at h; cases h
  | some it =>
    rw [hi] at h
    simp only [Option.bind_some] at h
    simp [zeroValue, typeInfo, hi, h]
theorem own_base {w : World} {B B' : Nat} {e : TypeId} {size : Nat} {v : Value} {n : Nat} {xs : List Value} (h : w.ownsRow B e size v n xs) (hB : B' ≤ B) : w.ownsRow B' e size v n xs := by
  refine ⟨h.1, ?_⟩
  rcases h.2 with hn | ⟨g, cap, cur, rfl, hb, rest⟩
  · exact .inl hn
  · exact .inr ⟨g, cap, cur, rfl, by omega, rest⟩
/-- the zero Contact's cells -/
def zcon : List Value := z20 ++ z4
theorem zcon_length : zcon.length = 24 := rfl
theorem zcon_one : zcon.toArray.all (·.oneCell') = true := by
  refine all_oneCell_toArray fun v hv => ?_
  rcases List.mem_append.1 hv with h | h
  · rw [(List.mem_replicate.1 h).2]; rfl
  · simp [z4] at h; rcases h with rfl | rfl | rfl <;> rfl
theorem build_zero (w : World) : (Instr.build 62 #[]).run Yba.prog w = .ok (.agg zcon.toArray) w := by
  refine run_build w 62 _ _ ?_
  rw [built_struct (z := .agg zcon.toArray) (places := [(0, 20), (20, 4)]) (by kernel_rfl) Yba.underlying62 (by kernel_rfl)]
  rfl
/-- one cell of a range written -/
theorem rangeAt_setAt {w : World} {b o i : Nat} {cs : List Value} {v : Value} (h : w.rangeAt b o cs) (hi : i < cs.length) : (w.setCell ⟨b, o + i, none⟩ v).rangeAt b o (cs.set i v) := by
  intro j u hj
  by_cases hij : i = j
  · subst hij
    rw [List.getElem?_set_self hi] at hj
    rw [World.cell?_setCell_same _ _ _ (h i _ (List.getElem?_eq_getElem hi))]; exact hj
  · rw [List.getElem?_set_ne hij] at hj
    rw [World.cell?_setCell_other (h := by intro e; injection e with _ e2; omega)]; exact h j u hj
section
variable {P : Program} {ops : Array Oper} {Q : Exit → Act → World → Prop}
/-- a slice literal of one element of many cells, come up in a drawn region -/
theorem come_lit {o : Oper} {a : Act} {w : World} {K : Act → World → Prop} {E : Prop} (hw : Region.wanted o (yielded ops a.tmps) = true) (t e : TypeId) (x : Operand) (ho : o.op = .buildSlice t 1 #[(0, x)]) (cs : List Value) (hx : a.eval x = .agg cs.toArray)
    (ie : TypeInfo) (z : Value) (hu : P.underlying t = some (.slice e)) (hie : P.info? e = some ie) (hz : ie.zero = some z) (hsz : ie.size = cs.length) (hpos : 0 < cs.length) (hsm : cs.length ≤ 2 ^ 24)
    (h : K (a.put o.dst (.slice (some ⟨w.heap.size, 0, none⟩) 1 1)) (w.alloc (.cells cs.toArray e))) : if Region.wanted o (yielded ops a.tmps) = true then Oper.wp P o a w K Q else E := by
  rw [if_pos hw]
  refine wp_buildSlice t e 1 _ ho cs.toArray ie z hu hie hz (by rw [hsz]; omega) (by rw [hsz]; omega) ?_ h
  obtain ⟨L, hL⟩ : ∃ L : List Value, (Array.range (1 * ie.size)).map (z.cells[· % z.cells.size]!) = L.toArray := ⟨_, Array.toArray_toList.symm⟩
  have hLl : L.length = cs.length := by
    have := congrArg Array.size hL
    simp at this; omega
  rw [hL]
  have := fill_part (place := fun i => some (i * ie.size, ie.size)) (i := 0) (off := 0) (n := cs.length) (vs := cs) (old := L) (pre := []) (post := []) (rest := []) (by simp [hsz]) rfl hLl rfl
  simp only [List.nil_append, List.append_nil] at this
  simp only [List.map_toArray, List.map_cons, List.map_nil, hx]
  rw [this]; rfl
end
end Go.Proofs.Ybulkdvwe
