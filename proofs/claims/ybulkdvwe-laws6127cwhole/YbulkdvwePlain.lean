import Derived.Test.YbulkdvweAddr
import Derived.Deep.MidRow
import Derived.Stop.BytesEq
import Derived.Maps.AppendAt
import Derived.Deep.AppendLies
import Derived.Deep.OwnRows
namespace Go.Proofs.Ybulkdvwe
open Go.RowKit
open Extern.Stop (cell)
set_option linter.unusedSimpArgs false

/-- one entry as plain data -/
structure Ent where
  b : Int
  id : List UInt8
  p : Int
  an : Int
  qu : Int
def Ent.ok (x : Ent) : Prop := (0 ≤ x.b ∧ x.b < 256) ∧ x.id.length = 20 ∧ (-9223372036854775808 ≤ x.an ∧ x.an ≤ 9223372036854775807) ∧ (-9223372036854775808 ≤ x.qu ∧ x.qu ≤ 9223372036854775807)
/-- its cells as the argument lays them -/
def Ent.cells (x : Ent) : List Value := .int .u8 x.b :: (x.id.map cell ++ [.int .u16 x.p, .int .i64 x.an, .int .i64 x.qu])
/-- the contact -/
def Ent.con (x : Ent) : List Value := x.id.map cell ++ [.int .u64 0, .int .u64 0, .pointer none, .int .u16 x.p]
/-- the entry of the table -/
def Ent.ent (x : Ent) : List Value := x.con ++ [.int .u64 (x.an % 1000000000), .int .i64 (x.an / 1000000000), .pointer none, .int .u64 (x.qu % 1000000000), .int .i64 (x.qu / 1000000000), .pointer none]
/-- the bucket -/
def Ent.bk (x : Ent) : Nat := (x.b % 160).toNat
def inB (es : List Ent) (i : Nat) : List Ent := es.filter (fun x => x.bk == i)
/-- the buckets below n, joined -/
def upTo (es : List Ent) (n : Nat) : List Ent := (List.range n).flatMap (inB es)

theorem Ent.bk_lt {x : Ent} : x.bk < 160 := by unfold Ent.bk; omega
theorem Ent.cells_length {x : Ent} (h : x.ok) : x.cells.length = 24 := by simp [Ent.cells, h.2.1]
theorem Ent.con_length {x : Ent} (h : x.ok) : x.con.length = 24 := by simp [Ent.con, h.2.1]
theorem Ent.ent_length {x : Ent} (h : x.ok) : x.ent.length = 30 := by simp [Ent.ent, Ent.con_length h]
theorem cell_one (l : List UInt8) : ∀ v ∈ l.map cell, v.oneCell' = true := by
  intro v hv; obtain ⟨b, _, rfl⟩ := List.mem_map.1 hv; rfl
theorem Ent.con_one (x : Ent) : ∀ v ∈ x.con, v.oneCell' = true := by
  intro v hv
  rcases List.mem_append.1 hv with h | h
  · exact cell_one _ v h
  · simp at h; rcases h with rfl | rfl | rfl <;> rfl
theorem Ent.ent_one (x : Ent) : ∀ v ∈ x.ent, v.oneCell' = true := by
  intro v hv
  rcases List.mem_append.1 hv with h | h
  · exact x.con_one v h
  · simp at h; rcases h with rfl | rfl | rfl | rfl | rfl | rfl <;> rfl
theorem Ent.cells_one (x : Ent) : ∀ v ∈ x.cells, v.oneCell' = true := by
  intro v hv
  rcases List.mem_cons.1 hv with rfl | h
  · rfl
  rcases List.mem_append.1 h with h | h
  · exact cell_one _ v h
  · simp at h; rcases h with rfl | rfl | rfl <;> rfl
theorem flat_one {f : Ent → List Value} (hf : ∀ x, ∀ v ∈ f x, v.oneCell' = true) (l : List Ent) : ∀ v ∈ l.flatMap f, v.oneCell' = true := by
  intro v hv; obtain ⟨x, _, hx⟩ := List.mem_flatMap.1 hv; exact hf x v hx
theorem flat_length {f : Ent → List Value} {n : Nat} : ∀ {l : List Ent}, (∀ x ∈ l, (f x).length = n) → (l.flatMap f).length = l.length * n
  | [], _ => by simp
  | x :: l, h => by
    have h1 := h x (by simp)
    have h2 := flat_length (l := l) (fun y hy => h y (by simp [hy]))
    simp only [List.flatMap_cons, List.length_append, List.length_cons, h1, h2, Nat.add_mul]; omega
theorem rangeAt_mid {w : World} {b o : Nat} {xs ys zs : List Value} (h : w.rangeAt b o (xs ++ ys ++ zs)) : w.rangeAt b (o + xs.length) ys := by
  intro j v hj
  have hl : j < ys.length := (List.getElem?_eq_some_iff.1 hj).1
  rw [Nat.add_assoc]
  refine h (xs.length + j) v ?_
  rw [List.append_assoc, List.getElem?_append_right (by omega), Nat.add_sub_cancel_left, List.getElem?_append_left hl]; exact hj
theorem rangeAt_left {w : World} {b o : Nat} {xs ys : List Value} (h : w.rangeAt b o (xs ++ ys)) : w.rangeAt b o xs := by
  have := rangeAt_mid (xs := []) (ys := xs) (zs := ys) (by simpa using h)
  simpa using this
theorem rangeAt_right {w : World} {b o : Nat} {xs ys : List Value} (h : w.rangeAt b o (xs ++ ys)) : w.rangeAt b (o + xs.length) ys :=
  rangeAt_mid (xs := xs) (ys := ys) (zs := []) (by simpa using h)
theorem rangeAt_join {w : World} {b o : Nat} {xs ys : List Value} (h : w.rangeAt b o xs) (k : w.rangeAt b (o + xs.length) ys) : w.rangeAt b o (xs ++ ys) := by
  intro j v hj
  by_cases hl : j < xs.length
  · exact h j v (by rwa [List.getElem?_append_left hl] at hj)
  · rw [List.getElem?_append_right (by omega)] at hj
    have := k (j - xs.length) v hj
    rwa [show o + xs.length + (j - xs.length) = o + j by omega] at this
theorem split_at {l : List Ent} {i : Nat} {x : Ent} (hi : l[i]? = some x) : l = l.take i ++ x :: l.drop (i + 1) := by
  obtain ⟨hlt, rfl⟩ := List.getElem?_eq_some_iff.1 hi
  rw [List.getElem_cons_drop, List.take_append_drop]
theorem flat_at {w : World} {b o n : Nat} {f : Ent → List Value} {l : List Ent} (hf : ∀ x ∈ l, (f x).length = n) (h : w.rangeAt b o (l.flatMap f)) {i : Nat} {x : Ent} (hi : l[i]? = some x) : w.rangeAt b (o + i * n) (f x) := by
  have hlt := (List.getElem?_eq_some_iff.1 hi).1
  rw [split_at hi, List.flatMap_append, List.flatMap_cons, ← List.append_assoc] at h
  have := rangeAt_mid h
  rwa [flat_length (fun x hx => hf x (List.mem_of_mem_take hx)), List.length_take, Nat.min_eq_left (by omega)] at this
theorem there_sub {w : World} {b N o m : Nat} (h : w.there b 0 N) (hle : o + m ≤ N) : w.there b o m := fun j hj => by
  have := h (o + j) (by omega); simpa using this
theorem take_succ' {l : List Ent} {i : Nat} {x : Ent} (hi : l[i]? = some x) : l.take (i + 1) = l.take i ++ [x] := by
  rw [List.take_add_one, hi]; rfl

theorem upTo_succ (es : List Ent) (n : Nat) : upTo es (n + 1) = upTo es n ++ inB es n := by
  simp [upTo, List.range_succ]
theorem inB_ok {es : List Ent} (h : ∀ x ∈ es, x.ok) (i : Nat) : ∀ x ∈ inB es i, x.ok := fun x hx => h x (List.mem_filter.1 hx).1
theorem upTo_ok {es : List Ent} (h : ∀ x ∈ es, x.ok) (n : Nat) : ∀ x ∈ upTo es n, x.ok := fun x hx => by
  obtain ⟨i, _, hi⟩ := List.mem_flatMap.1 hx; exact inB_ok h i x hi
theorem inB_snoc (es : List Ent) (x : Ent) (i : Nat) : inB (es ++ [x]) i = if x.bk = i then inB es i ++ [x] else inB es i := by
  unfold inB; rw [List.filter_append]
  by_cases h : x.bk = i
  · simp [h]
  · simp [h]
theorem upTo_len_cons (x : Ent) (es : List Ent) : ∀ n, (upTo (x :: es) n).length = (upTo es n).length + (if x.bk < n then 1 else 0)
  | 0 => by simp [upTo]
  | n + 1 => by
    rw [upTo_succ, upTo_succ, List.length_append, List.length_append, upTo_len_cons x es n]
    unfold inB
    by_cases h : x.bk = n
    · simp [h]; omega
    · rw [List.filter_cons_of_neg (by simpa using h)]
      by_cases h2 : x.bk < n
      · rw [if_pos h2, if_pos (by omega)]; omega
      · rw [if_neg h2, if_neg (by omega)]; omega
theorem upTo_len : ∀ (es : List Ent), (upTo es 160).length = es.length
  | [] => by
    have : ∀ n, upTo [] n = [] := fun n => by simp [upTo, inB]
    rw [this]
  | x :: es => by rw [upTo_len_cons, upTo_len es, if_pos Ent.bk_lt]; rfl
theorem upTo_le (es : List Ent) : ∀ {m n : Nat}, m ≤ n → ∃ r, upTo es n = upTo es m ++ r := by
  intro m n h
  induction n with
  | zero => exact ⟨[], by rw [Nat.le_zero.1 h]; simp⟩
  | succ n ih =>
    by_cases he : m = n + 1
    · exact ⟨[], by rw [he]; simp⟩
    · obtain ⟨r, hr⟩ := ih (by omega)
      exact ⟨r ++ inB es n, by rw [upTo_succ, hr, List.append_assoc]⟩
/-- the entry that the law meets at (b, i) is the next of the joined buckets -/
theorem next_at {es : List Ent} {b i : Nat} {x : Ent} (hb : b < 160) (hi : es[i]? = some x) (hx : x.bk = b) :
    (upTo es 160)[(upTo es b).length + (inB (es.take i) b).length]? = some x := by
  obtain ⟨r, hr⟩ := upTo_le es (show b + 1 ≤ 160 by omega)
  have h1 : inB es b = inB (es.take i) b ++ x :: inB (es.drop (i + 1)) b := by
    have := congrArg (fun l => inB l b) (split_at hi)
    rw [show inB es b = _ from this]; unfold inB; rw [List.filter_append, List.filter_cons_of_pos (by simpa using hx)]
  rw [hr, upTo_succ, h1, List.append_assoc, List.getElem?_append_right (by omega), Nat.add_sub_cancel_left, List.append_assoc, List.getElem?_append_right (by omega), Nat.sub_self]
  rfl
theorem inB_le (es : List Ent) (i : Nat) : (inB es i).length ≤ es.length := List.length_filter_le _ _

/-! ### rows under steps -/
theorem heap_setCells {w : World} {b g : Nat} (h : g ≠ b) : ∀ (vs : List Value) (o : Nat), (w.setCells b o vs).heap[g]? = w.heap[g]? := by
  intro vs
  induction vs generalizing w with
  | nil => intro o; rfl
  | cons v r ih => intro o; rw [World.setCells, ih]; exact Go.Deep.blk_setCell_other _ _ _ _ h
theorem size_setCells {w : World} {b : Nat} : ∀ (vs : List Value) (o : Nat), (w.setCells b o vs).heap.size = w.heap.size := by
  intro vs
  induction vs generalizing w with
  | nil => intro o; rfl
  | cons v r ih => intro o; rw [World.setCells, ih]; simp
theorem own_keep {w w' : World} {base : Nat} {e : TypeId} {size : Nat} {v : Value} {n : Nat} {xs : List Value} (h : w.ownsRow base e size v n xs) (hk : ∀ g, v.ownBlock = some g → w'.heap[g]? = w.heap[g]?) : w'.ownsRow base e size v n xs := by
  refine ⟨h.1, ?_⟩
  rcases h.2 with hn | ⟨g, cap, cur, rfl, hb, hg, rest⟩
  · exact .inl hn
  · exact .inr ⟨g, cap, cur, rfl, hb, (hk g rfl).trans hg, rest⟩
theorem own_below {w w' : World} {base : Nat} {e : TypeId} {size : Nat} {v : Value} {n : Nat} {xs : List Value} (h : w.ownsRow base e size v n xs) (hb : Below w.heap.size w w') : w'.ownsRow base e size v n xs :=
  own_keep h fun g hg => hb.block g (h.lt g hg).2
theorem own_range {w : World} {base : Nat} {e : TypeId} {size : Nat} {v : Value} {n : Nat} {xs : List Value} (h : w.ownsRow base e size v n xs) {g : Nat} (hg : v.ownBlock = some g) : w.rangeAt g 0 xs := fun j u hu => by
  have := h.cells hg j u hu
  rwa [Addr.add_mid] at this
end Go.Proofs.Ybulkdvwe
