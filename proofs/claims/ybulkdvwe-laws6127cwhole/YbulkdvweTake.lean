import Derived.Test.YbulkdvweEq
namespace Go.Proofs.Ybulkdvwe
open Go.RowKit
set_option linter.unusedSimpArgs false

section
variable {P : Program} {md : Region.Mode} {ops : Array Oper} {Q : Exit → Act → World → Prop} {S : World → Prop}
/-- an operation of a drawn region taken first, its slot written out -/
theorem take_val {i : Nat} {oi : Oper} {dst : Option Tmp} {v : Value} {fuel : Nat} {listed : Array Bool} {a : Act} {w : World} (hi : ops[i]? = some oi) (hd : oi.dst = dst)
    (hs : Region.noSelect ops = true) (hf : Region.free md ops listed i = true) (hr : (Region.ready md ops listed).contains i = true)
    (hQ : ∀ c a w, Q (.panic c) (a.put dst v) w → Q (.panic c) a w) (hy : YieldsIf P ops S oi v a) (hS : S w)
    (h : wpAnyH P md ops Q S fuel (listed.setIfInBounds i true) (a.put dst v) w) : wpAnyH P md ops Q S (fuel + 1) listed a w := by
  subst hd
  exact wpAnyH_take hi hs hf hr hQ hy hS h
theorem yields_move {o : Oper} {a : Act} {v : Value} (hw : Region.wanted o (yielded ops a.tmps) = true) (x : Operand) (ho : o.op = .move x) (hv : a.eval x = v) : YieldsIf P ops S o v a :=
  .inl ⟨hw, fun w _ => by unfold execOp; simp only [ho, hv]; rfl⟩
theorem yields_neq {o : Oper} {a : Act} (hw : Region.wanted o (yielded ops a.tmps) = true) (t : TypeId) (x y : Operand) (t' : TypeId) (ho : o.op = .binOp .neq t x y t') (xs ys : Array Value) (hx : a.eval x = .agg xs) (hy : a.eval y = .agg ys) (hm : P.eqGuardType P.depth t = false) (b : Bool)
    (he : ∀ w, S w → (Op.equalIn 10000 t (.agg xs) (.agg ys)).run P w = .ok b w) : YieldsIf P ops S o (.bool (!b)) a :=
  .inl ⟨hw, fun w hSw => by
    unfold execOp
    simp only [ho, hx, hy, Sem.run_bind, run_eqGuard_agg w .neq t x y xs ys hm, run_neq_struct w t xs ys, he w hSw, Result.andThen_ok]
    rfl⟩
theorem yields_build {o : Oper} {a : Act} (hw : Region.wanted o (yielded ops a.tmps) = true) (t : TypeId) (parts : Array (Nat × Operand)) (ho : o.op = .build t parts) (vals : Array (Nat × Value)) (hv : parts.toList.map (fun x => (x.1, a.eval x.2)) = vals.toList) (c : Value)
    (hr : ∀ w, (Instr.build t vals).run P w = .ok c w) : YieldsIf P ops S o c a :=
  .inl ⟨hw, fun w _ => by
    have hv' : (parts.map fun x => match x with | (i, x) => (i, a.eval x)) = vals := by
      apply Array.toList_inj.1
      rw [Array.toList_map]; exact hv
    unfold execOp
    simp only [ho, hv', Sem.run_bind, hr, Result.andThen_ok]
    rfl⟩
/-- a store of many cells, come up in a drawn region -/
theorem come_store {o : Oper} {a : Act} {w : World} {K : Act → World → Prop} {E : Prop} (hw : Region.wanted o (yielded ops a.tmps) = true) (hd : o.dst = none) (ty : TypeId) (x y : Operand) (ho : o.op = .store ty x y)
    (b off : Nat) (cs : List Value) (hx : a.eval x = .pointer (some ⟨b, off, none⟩)) (hy : a.eval y = .agg cs.toArray) (ht : w.there b off cs.length) (hi : (P.info? ty).map (·.size) = some cs.length) (h1 : ∀ v ∈ cs, v.oneCell' = true)
    (h : K a (w.setCells b off cs)) : if Region.wanted o (yielded ops a.tmps) = true then Oper.wp P o a w K Q else E := by
  rw [if_pos hw]
  refine wp_store_mid ty x y ho b off cs.toArray hx hy (by simpa using ht) (by simpa using hi) (all_oneCell_toArray h1) ?_
  rw [hd]; exact h
end
end Go.Proofs.Ybulkdvwe
