import Derived.Test.YbulkdvweSame
namespace Go.Proofs.Ybulkdvwe
open Go.RowKit
open Extern.Stop (cell)
set_option linter.unusedSimpArgs false

/-- the table at block tb: its self, its k, its lock free, its buckets -/
structure Tab (w : World) (tb : Nat) (sl : List Value) (q : Int) (bs : List Value) : Prop where
  self : w.rangeAt tb 0 sl
  k : w.cell? ⟨tb, 20, none⟩ = some (.int .i64 q)
  mu : w.cell? ⟨tb, 21, none⟩ = some (.int .i32 0)
  bks : w.rangeAt tb 23 bs
  free : ∀ o, w.frozen? ⟨tb, o, none⟩ = false
theorem Tab.lt {w : World} {tb : Nat} {sl : List Value} {q : Int} {bs : List Value} (h : Tab w tb sl q bs) : tb < w.heap.size := World.block_lt_of_cell? w _ h.k
theorem Tab.keep {w w' : World} {tb : Nat} {sl : List Value} {q : Int} {bs : List Value} (h : Tab w tb sl q bs) (hb : w'.heap[tb]? = w.heap[tb]?) : Tab w' tb sl q bs := by
  have hc : ∀ o, w'.cell? ⟨tb, o, none⟩ = w.cell? ⟨tb, o, none⟩ := fun o => World.cell?_of_block (a := ⟨tb, o, none⟩) hb
  have hf : ∀ o, w'.frozen? ⟨tb, o, none⟩ = w.frozen? ⟨tb, o, none⟩ := fun o => World.frozen?_of_block (a := ⟨tb, o, none⟩) hb
  exact ⟨fun j v hj => (hc _).trans (h.self j v hj), (hc _).trans h.k, (hc _).trans h.mu, fun j v hj => (hc _).trans (h.bks j v hj), fun o => (hf o).trans (h.free o)⟩
theorem Tab.below {w w' : World} {B tb : Nat} {sl : List Value} {q : Int} {bs : List Value} (h : Tab w tb sl q bs) (hb : Below B w w') (hlt : tb < B) : Tab w' tb sl q bs := h.keep (hb.block tb hlt)
theorem Tab.set {w : World} {tb : Nat} {sl : List Value} {q : Int} {bs : List Value} (h : Tab w tb sl q bs) (hs : sl.length = 20) (i : Nat) (v : Value) (hi : i < bs.length) : Tab (w.setCell ⟨tb, 23 + i, none⟩ v) tb sl q (bs.set i v) := by
  refine ⟨rangeAt_beside h.self (by omega), ?_, ?_, ?_, fun o => by simp [h.free o]⟩
  · rw [World.cell?_setCell_other (h := by intro e; injection e with _ e2; omega)]; exact h.k
  · rw [World.cell?_setCell_other (h := by intro e; injection e with _ e2; omega)]; exact h.mu
  · intro j u hj
    by_cases hij : i = j
    · subst hij
      rw [List.getElem?_set_self hi] at hj
      rw [World.cell?_setCell_same _ _ _ (h.bks i _ (List.getElem?_eq_getElem hi))]; exact hj
    · rw [List.getElem?_set_ne hij] at hj
      rw [World.cell?_setCell_other (h := by intro e; injection e with _ e2; omega)]; exact h.bks j u hj
/-- each bucket owns its entries, and no two lie in one block -/
structure Rows1 (w : World) (B : Nat) (bs : List Value) (es : List Ent) : Prop where
  own : ∀ (i : Nat) (v : Value), bs[i]? = some v → w.ownsRow B 65 30 v (inB es i).length ((inB es i).flatMap Ent.ent)
  apart : ∀ (i j : Nat) (v u : Value), bs[i]? = some v → bs[j]? = some u → i ≠ j → v.ownBlock = none ∨ v.ownBlock ≠ u.ownBlock
theorem Rows1.below {w w' : World} {B : Nat} {bs : List Value} {es : List Ent} (h : Rows1 w B bs es) (hb : Below w.heap.size w w') : Rows1 w' B bs es :=
  ⟨fun i v hv => own_below (h.own i v hv) hb, h.apart⟩
/-- one entry more: bucket i's value is v' now -/
theorem Rows1.step {w w' : World} {B : Nat} {bs : List Value} {es : List Ent} {x : Ent} {v v' : Value} (h : Rows1 w B bs es) (hv : bs[x.bk]? = some v)
    (hk : ∀ g, g < w.heap.size → some g ≠ v.ownBlock → B ≤ g → w'.heap[g]? = w.heap[g]?)
    (ho : w'.ownsRow B 65 30 v' ((inB es x.bk).length + 1) ((inB es x.bk).flatMap Ent.ent ++ x.ent)) (hat : v'.ownBlock = v.ownBlock ∨ ∃ g, v'.ownBlock = some g ∧ w.heap.size ≤ g) : Rows1 w' B (bs.set x.bk v') (es ++ [x]) := by
  have hlt : x.bk < bs.length := (List.getElem?_eq_some_iff.1 hv).1
  have hne : ∀ i u, bs[i]? = some u → x.bk ≠ i → u.ownBlock = none ∨ u.ownBlock ≠ v'.ownBlock := fun i u hu hi => by
    rcases hat with e | ⟨g, e, hg⟩
    · rw [e]; exact h.apart i x.bk u v hu hv (fun e => hi e.symm)
    · cases hub : u.ownBlock with
      | none => exact Or.inl rfl
      | some g' =>
        right
        have := ((h.own i u hu).lt g' hub).2
        rw [e]; intro e2; injection e2; omega
  refine ⟨fun i u hu => ?_, fun i j u u' hu hu' hij => ?_⟩
  · by_cases hi : x.bk = i
    · subst hi
      rw [List.getElem?_set_self hlt] at hu
      obtain rfl := (Option.some.inj hu)
      rw [inB_snoc, if_pos rfl, List.length_append, List.flatMap_append]
      simpa using ho
    · rw [List.getElem?_set_ne hi] at hu
      rw [inB_snoc, if_neg hi]
      refine own_keep (h.own i u hu) (fun g hg => ?_)
      have h2 := (h.own i u hu).lt g hg
      refine hk g h2.2 ?_ h2.1
      rcases h.apart i x.bk u v hu hv (fun e => hi e.symm) with e | e
      · rw [hg] at e; cases e
      · rw [hg] at e; exact e
  · by_cases hi : x.bk = i
    · subst hi
      rw [List.getElem?_set_self hlt] at hu
      obtain rfl := (Option.some.inj hu)
      rw [List.getElem?_set_ne hij] at hu'
      rcases hne j u' hu' hij with e | e
      · cases hvb : v'.ownBlock with
        | none => exact Or.inl rfl
        | some g => right; rw [e]; simp
      · exact Or.inr (fun e2 => e e2.symm)
    · rw [List.getElem?_set_ne hi] at hu
      by_cases hj : x.bk = j
      · subst hj
        rw [List.getElem?_set_self hlt] at hu'
        obtain rfl := (Option.some.inj hu')
        exact hne i u hu hi
      · rw [List.getElem?_set_ne hj] at hu'
        exact h.apart i j u u' hu hu' hij
theorem Rows1.row {w : World} {B : Nat} {bs : List Value} {es : List Ent} (h : Rows1 w B bs es) (i : Nat) (v : Value) (hv : bs[i]? = some v) : RowAt w v (inB es i) := by
  have ho := h.own i v hv
  rcases ho.2 with ⟨rfl, h0⟩ | ⟨g, cap, cur, rfl, hb, hg, hnc, hcm, hcs, htake⟩
  · exact ⟨none, 0, by rw [h0], fun h => by omega⟩
  · exact ⟨_, cap, rfl, fun _ => ⟨g, rfl, (ho.lt g rfl).2, own_range ho rfl⟩⟩
theorem rowAt_own {w : World} {B : Nat} {v : Value} {l : List Ent} (ho : w.ownsRow B 65 30 v l.length (l.flatMap Ent.ent)) : RowAt w v l := by
  rcases ho.2 with ⟨rfl, h0⟩ | ⟨g, cap, cur, rfl, hb, hg, hnc, hcm, hcs, htake⟩
  · exact ⟨none, 0, by rw [h0], fun h => by omega⟩
  · exact ⟨_, cap, rfl, fun _ => ⟨g, rfl, (ho.lt g rfl).2, own_range ho rfl⟩⟩
/-- the table just made -/
theorem tab_new (w : World) (sl : List Value) (q : Int) (hs : sl.length = 20) : Tab (w.alloc (.cells (sl ++ ([Value.int .i64 q] ++ tailCells)).toArray 55)) w.heap.size sl q (List.replicate 160 (.slice none 0 0)) := by
  have hr : (w.alloc (.cells (sl ++ ([Value.int .i64 q] ++ tailCells)).toArray 55)).rangeAt w.heap.size 0 (sl ++ ([Value.int .i64 q] ++ tailCells)) := fun j v hj => by
    rw [Nat.zero_add, cell_of_row _ _ j _ _ _ (heap_alloc_new w _)]; simpa using hj
  have h1 := rangeAt_right hr
  rw [Nat.zero_add, hs] at h1
  have h2 := rangeAt_right h1
  refine ⟨rangeAt_left hr, ?_, ?_, ?_, fun o => ?_⟩
  · have := rangeAt_left h1 0 (.int .i64 q) rfl
    simpa using this
  · have := h2 0 (.int .i32 0) rfl
    simpa using this
  · have := rangeAt_mid (xs := [Value.int .i32 0, .int .u32 0]) (ys := List.replicate 160 (.slice none 0 0)) (zs := (List.replicate 161 [Value.int .u64 0, .int .i64 0, .pointer none]).flatten) (by exact h2)
    simpa using this
  · unfold World.frozen?
    rw [show (⟨w.heap.size, o, none⟩ : Addr).block = w.heap.size from rfl, heap_alloc_new]; simp
theorem rows_new (w : World) (B : Nat) : Rows1 w B (List.replicate 160 (.slice none 0 0)) [] := by
  refine ⟨fun i v hv => ?_, fun i j v u hv hu hij => ?_⟩
  · rw [List.getElem?_replicate] at hv
    split at hv
    · obtain rfl := Option.some.inj hv; exact World.ownsRow_nil _ _ _ _
    · cases hv
  · rw [List.getElem?_replicate] at hv
    split at hv
    · obtain rfl := Option.some.inj hv; exact Or.inl rfl
    · cases hv
end Go.Proofs.Ybulkdvwe
