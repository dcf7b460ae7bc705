import Derived.Test.YbulkdvuoLeaf17
import Derived.Deep.MidRow
import Derived.Maps.AppendAt
import Derived.Deep.AppendLies
import Derived.Deep.OwnRows
import Derived.Laws.Tables
import Derived.Great.BuildSlice
import Derived.OwnWalk
import Derived.Lib.SliceRun
import Derived.Deep.CutRange
import Derived.Deep.CutBlock
import Derived.Laws.AppendOwnNone
namespace Go.Proofs.Ybulkdvuo
open Go.RowKit
set_option linter.unusedSimpArgs false

theorem rangeAt_mid {w : World} {b o : Nat} {xs ys zs : List Value} (h : w.rangeAt b o (xs ++ ys ++ zs)) : w.rangeAt b (o + xs.length) ys := by
  intro j v hj
  have hl : j < ys.length := (List.getElem?_eq_some_iff.1 hj).1
  rw [Nat.add_assoc]
  refine h (xs.length + j) v ?_
  rw [List.append_assoc, List.getElem?_append_right (by omega), Nat.add_sub_cancel_left, List.getElem?_append_left hl]; exact hj
theorem rangeAt_left {w : World} {b o : Nat} {xs ys : List Value} (h : w.rangeAt b o (xs ++ ys)) : w.rangeAt b o xs := by
  have := rangeAt_mid (xs := []) (ys := xs) (zs := ys) (by simpa using h)
  simpa using this
theorem rangeAt_right {w : World} {b o : Nat} {xs ys : List Value} (h : w.rangeAt b o (xs ++ ys)) : w.rangeAt b (o + xs.length) ys :=
  rangeAt_mid (xs := xs) (ys := ys) (zs := []) (by simpa using h)
theorem rangeAt_join {w : World} {b o : Nat} {xs ys : List Value} (h : w.rangeAt b o xs) (k : w.rangeAt b (o + xs.length) ys) : w.rangeAt b o (xs ++ ys) := by
  intro j v hj
  by_cases hl : j < xs.length
  · exact h j v (by rwa [List.getElem?_append_left hl] at hj)
  · rw [List.getElem?_append_right (by omega)] at hj
    have := k (j - xs.length) v hj
    rwa [show o + xs.length + (j - xs.length) = o + j by omega] at this
theorem there_sub {w : World} {b N o m : Nat} (h : w.there b 0 N) (hle : o + m ≤ N) : w.there b o m := fun j hj => by
  have := h (o + j) (by omega); simpa using this
theorem heap_setCells {w : World} {b g : Nat} (h : g ≠ b) : ∀ (vs : List Value) (o : Nat), (w.setCells b o vs).heap[g]? = w.heap[g]? := by
  intro vs
  induction vs generalizing w with
  | nil => intro o; rfl
  | cons v r ih => intro o; rw [World.setCells, ih]; exact Go.Deep.blk_setCell_other _ _ _ _ h
theorem size_setCells {w : World} {b : Nat} : ∀ (vs : List Value) (o : Nat), (w.setCells b o vs).heap.size = w.heap.size := by
  intro vs
  induction vs generalizing w with
  | nil => intro o; rfl
  | cons v r ih => intro o; rw [World.setCells, ih]; simp
theorem own_keep {w w' : World} {base : Nat} {e : TypeId} {size : Nat} {v : Value} {n : Nat} {xs : List Value} (h : w.ownsRow base e size v n xs) (hk : ∀ g, v.ownBlock = some g → w'.heap[g]? = w.heap[g]?) : w'.ownsRow base e size v n xs := by
  refine ⟨h.1, ?_⟩
  rcases h.2 with hn | ⟨g, cap, cur, rfl, hb, hg, rest⟩
  · exact .inl hn
  · exact .inr ⟨g, cap, cur, rfl, hb, (hk g rfl).trans hg, rest⟩
theorem own_below {w w' : World} {base : Nat} {e : TypeId} {size : Nat} {v : Value} {n : Nat} {xs : List Value} (h : w.ownsRow base e size v n xs) (hb : Below w.heap.size w w') : w'.ownsRow base e size v n xs :=
  own_keep h fun g hg => hb.block g (h.lt g hg).2
theorem own_range {w : World} {base : Nat} {e : TypeId} {size : Nat} {v : Value} {n : Nat} {xs : List Value} (h : w.ownsRow base e size v n xs) {g : Nat} (hg : v.ownBlock = some g) : w.rangeAt g 0 xs := fun j u hu => by
  have := h.cells hg j u hu
  rwa [Addr.add_mid] at this
/-- the world forgotten but for what is said of it -/
theorem gen_wp {P : Program} {c : Code} {Q : Exit → Act → World → Prop} {a : Act} {w : World} (F : World → Prop) (h : F w) (k : ∀ w', F w' → c.wp P Q a w') : c.wp P Q a w := k w h
theorem there_new {w : World} {c : Array Value} {t : TypeId} {n : Nat} (hn : n ≤ c.size) : (w.alloc (.cells c t)).there w.heap.size 0 n := fun j hj => by
  rw [Nat.zero_add]
  refine ⟨?_, ?_⟩
  · rw [cell_of_row _ _ j _ _ _ (heap_alloc_new w _), Array.getElem?_eq_getElem (by omega)]; rfl
  · have := heap_alloc_new w (.cells c t)
    unfold World.frozen?
    rw [show (⟨w.heap.size, j, none⟩ : Addr).block = w.heap.size from rfl, this]; simp
theorem rangeAt_below {w w' : World} {B b o : Nat} {cs : List Value} (hb : Below B w w') (hlt : b < B) (h : w.rangeAt b o cs) : w'.rangeAt b o cs := fun j v hj => (hb.cell (p := ⟨b, o + j, none⟩) hlt).trans (h j v hj)
theorem there_below {w w' : World} {B b o n : Nat} (hb : Below B w w') (hlt : b < B) (h : w.there b o n) : w'.there b o n := fun j hj =>
  ⟨by rw [hb.cell (p := ⟨b, o + j, none⟩) hlt]; exact (h j hj).1, by rw [hb.frozen (p := ⟨b, o + j, none⟩) hlt]; exact (h j hj).2⟩

theorem below_setCells {B : Nat} {w w' : World} {b : Nat} (h : Below B w w') (hb : B ≤ b) : ∀ (vs : List Value) (o : Nat), Below B w (w'.setCells b o vs) := by
  intro vs
  induction vs generalizing w' with
  | nil => intro o; exact h
  | cons v r ih => intro o; exact ih (h.setCell hb v) (o + 1)
theorem cell_apart {w : World} {b o b' o' : Nat} {vs : List Value} (h : b' ≠ b) : (w.setCells b o vs).cell? ⟨b', o', none⟩ = w.cell? ⟨b', o', none⟩ :=
  World.cell?_setCells_out b vs o w ⟨b', o', none⟩ (fun hb _ => absurd hb h)
/-- the store of many cells, as the walk leaves it -/
theorem stores {P : Program} (b o : Nat) (cs : List Value) (h1 : ∀ v ∈ cs, v.oneCell' = true) (w : World) (ht : w.there b o cs.length) : (storeCells ⟨b, o, none⟩ cs).run P w = .ok () (w.setCells b o cs) := by
  have := run_storeCells_cells (P := P) b o cs 0 w (fun j hj => by simpa using (ht j hj).1) (fun j hj => by simpa using (ht j hj).2) h1
  simpa [storeCells] using this
theorem loads {P : Program} (b o : Nat) (cs : List Value) (w : World) (hc : w.rangeAt b o cs) : (loadCells ⟨b, o, none⟩ cs.length).run P w = .ok cs.toArray w :=
  run_loadCells_list (P := P) w ⟨b, o, none⟩ cs (fun j v hv => by rw [Addr.add_mid]; exact hc j v hv)

theorem below_grown {B : Nat} {w w' w'' : World} {row : Option Nat} (h : Below B w w') (hg : w'.grownBy w'' row) (hB : B ≤ w'.heap.size) (hr : ∀ k, row = some k → B ≤ k) : Below B w w'' :=
  h.trans ⟨hg.os, hg.tape, hg.output, hg.size, fun k hk => hg.block k (by omega) (fun e => by have := hr k e.symm; omega)⟩
/-- a cell written over and back -/
theorem below_back {B : Nat} {w v : World} {a : Addr} {x y : Value} (hc : w.cell? a = some y) (h : Below B (w.setCell a x) v) : Below B w (v.setCell a y) := by
  have h2 := below_set h y
  have hh := setCell_self hc
  exact ⟨h2.os, h2.tape, h2.output, by have := h2.size; simpa using this, fun j hj => (h2.block j hj).trans (by rw [hh])⟩
/-- a range beside the cell that is written -/
theorem rangeAt_beside {w : World} {b o c : Nat} {cs : List Value} {v : Value} (h : w.rangeAt b o cs) (hc : c < o ∨ o + cs.length ≤ c) : (w.setCell ⟨b, c, none⟩ v).rangeAt b o cs := fun j u hu => by
  have hj : j < cs.length := (List.getElem?_eq_some_iff.1 hu).1
  rw [World.cell?_setCell_other (h := by intro e; injection e with _ e2; omega)]
  exact h j u hu
theorem own_there {w : World} {base : Nat} {e : TypeId} {size n cap g : Nat} {xs : List Value} (h : w.ownsRow base e size (.slice (some ⟨g, 0, none⟩) n cap) n xs) : w.there g 0 (n * size) := by
  rcases h.2 with ⟨hv, _⟩ | ⟨g', cap', cur, hv, hb, hg, hnc, hcm, hcs, htake⟩
  · cases hv
  · injection hv with h1 h2 h3
    injection h1 with h1
    injection h1 with h1
    subst h1 h3
    intro j hj
    rw [Nat.zero_add]
    have hlt : j < cur.size := by rw [hcs]; exact Nat.lt_of_lt_of_le hj (Nat.mul_le_mul_right _ hnc)
    refine ⟨?_, ?_⟩
    · rw [cell_of_row _ _ j _ _ _ hg, Array.getElem?_eq_getElem hlt]; rfl
    · unfold World.frozen?
      rw [show (⟨g, j, none⟩ : Addr).block = g from rfl, hg]; simp

theorem fold_set {off : Nat} : ∀ (vs old pre post : List Value) (k : Nat), old.length = vs.length → pre.length = off + k →
    (vs.zipIdx k).foldl (fun (cs : Array Value) (x : Value × Nat) => cs.setIfInBounds (off + x.2) x.1) (pre ++ old ++ post).toArray = (pre ++ vs ++ post).toArray
  | [], old, pre, post, k, h, _ => by
    have : old = [] := List.eq_nil_of_length_eq_zero (by simpa using h)
    subst this; simp
  | v :: vs, [], pre, post, k, h, _ => by simp at h
  | v :: vs, o :: old, pre, post, k, h, hp => by
    have ih := fold_set (off := off) vs old (pre ++ [v]) post (k + 1) (by simpa using h) (by simp; omega)
    simp only [List.zipIdx_cons, List.foldl_cons]
    have hs : (pre ++ o :: old ++ post).toArray.setIfInBounds (off + k) v = (pre ++ [v] ++ old ++ post).toArray := by
      rw [List.setIfInBounds_toArray, ← hp]; simp
    rw [hs, ih]; simp
theorem fold_arr {off : Nat} (vs old pre post : List Value) (h : old.length = vs.length) (hp : pre.length = off) :
    vs.toArray.zipIdx.foldl (fun (cs : Array Value) (x : Value × Nat) => cs.setIfInBounds (off + x.2) x.1) (pre ++ old ++ post).toArray = (pre ++ vs ++ post).toArray := by
  rw [← Array.foldl_toList, Array.toList_zipIdx]
  exact fold_set vs old pre post 0 h (by simpa using hp)
/-- one part of a literal, its cells whatever -/
theorem fill_part {place : Nat → Option (Nat × Nat)} {i off n : Nat} {vs old pre post : List Value} {rest : List (Nat × Value)} (hpl : place i = some (off, n)) (hn : vs.length = n) (ho : old.length = n) (hp : pre.length = off) :
    Instr.fill place (pre ++ old ++ post).toArray ((i, .agg vs.toArray) :: rest) = Instr.fill place (pre ++ vs ++ post).toArray rest := by
  rw [Instr.fill, hpl]
  have h2 : ¬ (off + vs.length > (pre ++ old ++ post).length) := by simp; omega
  simp only [Value.cells, List.size_toArray]
  rw [if_neg (by simp [hn] at h2 ⊢; omega), fold_arr vs old pre post (by omega) hp]

theorem built_struct {P : Program} {t : TypeId} {fs : Array Field} {z : Value} {places : List (Nat × Nat)} (hz : (P.info? t).bind (·.zero) = some z) (hu : P.underlying t = some (.struct fs))
    (hp : fs.toList.mapM (fun f => (P.info? f.type).map fun i => (f.offset, i.size)) = some places) (parts : List (Nat × Value)) : P.built t parts = Instr.fill (places.toArray[·]?) z.cells parts := by
  unfold Program.built
  cases hi : P.info? t with
  | none => rw [hi] at hz; cases hz
  | some it =>
    rw [hi] at hz
    simp only [Option.bind_some] at hz
    simp only [hu, hz, hp]

theorem wpList_build_run {P : Program} {ops : Array Oper} {rest : List Oper} {o : Oper} {a : Act} {w : World} {Q : Exit → Act → World → Prop} (hg : o.guard = none) (t : TypeId) (parts : Array (Nat × Operand)) (ho : o.op = .build t parts) (vals : Array (Nat × Value))
    (hv : parts.toList.map (fun x => (x.1, a.eval x.2)) = vals.toList) (c : Value) (hr : ∀ w, (Instr.build t vals).run P w = .ok c w) (h : wpList P ops Q rest (a.put o.dst c) w) : wpList P ops Q (o :: rest) a w :=
  wpList_plain hg fun K hK => by
    have hv' : (parts.map fun x => match x with | (i, x) => (i, a.eval x)) = vals := by
      apply Array.toList_inj.1
      rw [Array.toList_map]; exact hv
    unfold Oper.wp execOp
    simp only [ho, hv', hr, Sem.run_bind, Result.andThen_ok]
    exact hK _ _ h
theorem gen_any {P : Program} {md : Region.Mode} {ops : Array Oper} {Q : Exit → Act → World → Prop} {S : World → Prop} {n : Nat} {l : Array Bool} {a : Act} {w : World} (F : World → Prop) (h : F w) (k : ∀ w', F w' → wpAnyH P md ops Q S n l a w') : wpAnyH P md ops Q S n l a w := k w h

theorem own_base {w : World} {B B' : Nat} {e : TypeId} {size : Nat} {v : Value} {n : Nat} {xs : List Value} (h : w.ownsRow B e size v n xs) (hB : B' ≤ B) : w.ownsRow B' e size v n xs := by
  refine ⟨h.1, ?_⟩
  rcases h.2 with hn | ⟨g, cap, cur, rfl, hb, rest⟩
  · exact .inl hn
  · exact .inr ⟨g, cap, cur, rfl, by omega, rest⟩
/-- one cell of a range written -/
theorem rangeAt_setAt {w : World} {b o i : Nat} {cs : List Value} {v : Value} (h : w.rangeAt b o cs) (hi : i < cs.length) : (w.setCell ⟨b, o + i, none⟩ v).rangeAt b o (cs.set i v) := by
  intro j u hj
  by_cases hij : i = j
  · subst hij
    rw [List.getElem?_set_self hi] at hj
    rw [World.cell?_setCell_same _ _ _ (h i _ (List.getElem?_eq_getElem hi))]; exact hj
  · rw [List.getElem?_set_ne hij] at hj
    rw [World.cell?_setCell_other (h := by intro e; injection e with _ e2; omega)]; exact h j u hj
section
variable {P : Program} {md : Region.Mode} {ops : Array Oper} {Q : Exit → Act → World → Prop} {S : World → Prop}
/-- an operation of a drawn region taken first, its slot written out -/
theorem take_val {i : Nat} {oi : Oper} {dst : Option Tmp} {v : Value} {fuel : Nat} {listed : Array Bool} {a : Act} {w : World} (hi : ops[i]? = some oi) (hd : oi.dst = dst)
    (hs : Region.noSelect ops = true) (hf : Region.free md ops listed i = true) (hr : (Region.ready md ops listed).contains i = true)
    (hQ : ∀ c a w, Q (.panic c) (a.put dst v) w → Q (.panic c) a w) (hy : YieldsIf P ops S oi v a) (hS : S w)
    (h : wpAnyH P md ops Q S fuel (listed.setIfInBounds i true) (a.put dst v) w) : wpAnyH P md ops Q S (fuel + 1) listed a w := by
  subst hd
  exact wpAnyH_take hi hs hf hr hQ hy hS h
theorem yields_move {o : Oper} {a : Act} {v : Value} (hw : Region.wanted o (yielded ops a.tmps) = true) (x : Operand) (ho : o.op = .move x) (hv : a.eval x = v) : YieldsIf P ops S o v a :=
  .inl ⟨hw, fun w _ => by unfold execOp; simp only [ho, hv]; rfl⟩
theorem yields_neq {o : Oper} {a : Act} (hw : Region.wanted o (yielded ops a.tmps) = true) (t : TypeId) (x y : Operand) (t' : TypeId) (ho : o.op = .binOp .neq t x y t') (xs ys : Array Value) (hx : a.eval x = .agg xs) (hy : a.eval y = .agg ys) (hm : P.eqGuardType P.depth t = false) (b : Bool)
    (he : ∀ w, S w → (Op.equalIn 10000 t (.agg xs) (.agg ys)).run P w = .ok b w) : YieldsIf P ops S o (.bool (!b)) a :=
  .inl ⟨hw, fun w hSw => by
    unfold execOp
    simp only [ho, hx, hy, Sem.run_bind, run_eqGuard_agg w .neq t x y xs ys hm, run_neq_struct w t xs ys, he w hSw, Result.andThen_ok]
    rfl⟩
theorem yields_build {o : Oper} {a : Act} (hw : Region.wanted o (yielded ops a.tmps) = true) (t : TypeId) (parts : Array (Nat × Operand)) (ho : o.op = .build t parts) (vals : Array (Nat × Value)) (hv : parts.toList.map (fun x => (x.1, a.eval x.2)) = vals.toList) (c : Value)
    (hr : ∀ w, (Instr.build t vals).run P w = .ok c w) : YieldsIf P ops S o c a :=
  .inl ⟨hw, fun w _ => by
    have hv' : (parts.map fun x => match x with | (i, x) => (i, a.eval x)) = vals := by
      apply Array.toList_inj.1
      rw [Array.toList_map]; exact hv
    unfold execOp
    simp only [ho, hv', Sem.run_bind, hr, Result.andThen_ok]
    rfl⟩
/-- a store of many cells, come up in a drawn region -/
theorem come_store {o : Oper} {a : Act} {w : World} {K : Act → World → Prop} {E : Prop} (hw : Region.wanted o (yielded ops a.tmps) = true) (hd : o.dst = none) (ty : TypeId) (x y : Operand) (ho : o.op = .store ty x y)
    (b off : Nat) (cs : List Value) (hx : a.eval x = .pointer (some ⟨b, off, none⟩)) (hy : a.eval y = .agg cs.toArray) (ht : w.there b off cs.length) (hi : (P.info? ty).map (·.size) = some cs.length) (h1 : ∀ v ∈ cs, v.oneCell' = true)
    (h : K a (w.setCells b off cs)) : if Region.wanted o (yielded ops a.tmps) = true then Oper.wp P o a w K Q else E := by
  rw [if_pos hw]
  refine wp_store_mid ty x y ho b off cs.toArray hx hy (by simpa using ht) (by simpa using hi) (all_oneCell_toArray h1) ?_
  rw [hd]; exact h
/-- a slice literal of one element of many cells, come up in a drawn region -/
theorem come_lit {o : Oper} {a : Act} {w : World} {K : Act → World → Prop} {E : Prop} (hw : Region.wanted o (yielded ops a.tmps) = true) (t e : TypeId) (x : Operand) (ho : o.op = .buildSlice t 1 #[(0, x)]) (cs : List Value) (hx : a.eval x = .agg cs.toArray)
    (ie : TypeInfo) (z : Value) (hu : P.underlying t = some (.slice e)) (hie : P.info? e = some ie) (hz : ie.zero = some z) (hsz : ie.size = cs.length) (hpos : 0 < cs.length) (hsm : cs.length ≤ 2 ^ 24)
    (h : K (a.put o.dst (.slice (some ⟨w.heap.size, 0, none⟩) 1 1)) (w.alloc (.cells cs.toArray e))) : if Region.wanted o (yielded ops a.tmps) = true then Oper.wp P o a w K Q else E := by
  rw [if_pos hw]
  refine wp_buildSlice t e 1 _ ho cs.toArray ie z hu hie hz (by rw [hsz]; omega) (by rw [hsz]; omega) ?_ h
  obtain ⟨L, hL⟩ : ∃ L : List Value, (Array.range (1 * ie.size)).map (z.cells[· % z.cells.size]!) = L.toArray := ⟨_, Array.toArray_toList.symm⟩
  have hLl : L.length = cs.length := by
    have := congrArg Array.size hL
    simp at this; omega
  rw [hL]
  have := fill_part (place := fun i => some (i * ie.size, ie.size)) (i := 0) (off := 0) (n := cs.length) (vs := cs) (old := L) (pre := []) (post := []) (rest := []) (by simp [hsz]) rfl hLl rfl
  simp only [List.nil_append, List.append_nil] at this
  simp only [List.map_toArray, List.map_cons, List.map_nil, hx]
  rw [this]; rfl
end
end Go.Proofs.Ybulkdvuo
