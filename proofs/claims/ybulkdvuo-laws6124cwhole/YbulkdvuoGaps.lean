import Derived.Test.YbulkdvuoLeaf18
namespace Go.Proofs.Ybulkdvuo
open Go.RowKit
set_option linter.unusedSimpArgs false

/-- one ACK that lacks, as plain data -/
structure Ack1 where
  J : Int
  refs : List Tri
  nl : Nat
/-- a gap as plain data: open, first, J, ids -/
structure Gap1 where
  op : Int
  fi : Int
  J : Int
  ids : List Tri
/-- what the answer hangs on -/
structure Pm where
  T : Int
  r : Int
  P : Int
  until_ : Int
  closed : Int
  after : Int
  held : List Tri
  ff : Int → Int
def Pm.opn (c : Pm) (J : Int) : Int := J * c.T + Rw c.r c.P
/-- gaps, kept places, counts: from place k on -/
def gaps (c : Pm) : Nat → List Ack1 → List Gap1 × List Nat × List Nat
  | _, [] => ([], [], [])
  | k, a :: r =>
    if c.until_ < c.opn a.J + c.P / 2 then ([], List.range' k (r.length + 1), (a :: r).map Ack1.nl)
    else if a.J ≤ c.closed then ((gaps c (k + 1) r).1, k :: (gaps c (k + 1) r).2.1, a.nl :: (gaps c (k + 1) r).2.2)
    else if lackedFrom c.held a.refs (adv c.held a.refs a.nl) = [] then ((gaps c (k + 1) r).1, (gaps c (k + 1) r).2.1, adv c.held a.refs a.nl :: (gaps c (k + 1) r).2.2)
    else ((if c.after < a.J then [⟨c.opn a.J, c.ff a.J, a.J, lackedFrom c.held a.refs (adv c.held a.refs a.nl)⟩] else []) ++ (gaps c (k + 1) r).1, k :: (gaps c (k + 1) r).2.1, adv c.held a.refs a.nl :: (gaps c (k + 1) r).2.2)
/-- the answer so far (G, K, N: up to place k) and what is still to come -/
def Sofar (c : Pm) (A : List Ack1) (k : Nat) (G : List Gap1) (K N : List Nat) : Prop :=
  k ≤ A.length ∧ N.length = k ∧ K.length ≤ k ∧ (∀ i ∈ K, i < k) ∧ gaps c 0 A = (G ++ (gaps c k (A.drop k)).1, K ++ (gaps c k (A.drop k)).2.1, N ++ (gaps c k (A.drop k)).2.2)
theorem Sofar.zero (c : Pm) (A : List Ack1) : Sofar c A 0 [] [] [] := ⟨Nat.zero_le _, rfl, Nat.le_refl _, by simp, by simp⟩
section
variable {c : Pm} {A : List Ack1} {k : Nat} {G : List Gap1} {K N : List Nat} {a : Ack1}
theorem drop_at (h : A[k]? = some a) : A.drop k = a :: A.drop (k + 1) := by
  obtain ⟨hlt, rfl⟩ := List.getElem?_eq_some_iff.1 h
  rw [List.drop_eq_getElem_cons hlt]
theorem Sofar.stop (h : Sofar c A k G K N) (ha : A[k]? = some a) (hs : c.until_ < c.opn a.J + c.P / 2) : gaps c 0 A = (G, K ++ List.range' k (A.length - k), N ++ (A.drop k).map Ack1.nl) := by
  have hlt := (List.getElem?_eq_some_iff.1 ha).1
  obtain ⟨_, _, _, _, h⟩ := h
  rw [drop_at ha] at h
  rw [h, gaps, if_pos hs]
  simp only [List.append_nil, List.length_drop]
  rw [show A.length - (k + 1) + 1 = A.length - k by omega, ← drop_at ha]
theorem Sofar.kept (h : Sofar c A k G K N) (ha : A[k]? = some a) (hs : ¬ c.until_ < c.opn a.J + c.P / 2) (hc : a.J ≤ c.closed) : Sofar c A (k + 1) G (K ++ [k]) (N ++ [a.nl]) := by
  have hlt := (List.getElem?_eq_some_iff.1 ha).1
  obtain ⟨h1, h2, h3, h4, h⟩ := h
  refine ⟨hlt, by simp [h2], by simp; omega, by intro i hi; rcases List.mem_append.1 hi with hi | hi; exact Nat.lt_succ_of_lt (h4 i hi); simp at hi; omega, ?_⟩
  rw [drop_at ha] at h
  rw [h, gaps, if_neg hs, if_pos hc]
  simp
theorem Sofar.none (h : Sofar c A k G K N) (ha : A[k]? = some a) (hs : ¬ c.until_ < c.opn a.J + c.P / 2) (hc : ¬ a.J ≤ c.closed) (hl : lackedFrom c.held a.refs (adv c.held a.refs a.nl) = []) : Sofar c A (k + 1) G K (N ++ [adv c.held a.refs a.nl]) := by
  have hlt := (List.getElem?_eq_some_iff.1 ha).1
  obtain ⟨h1, h2, h3, h4, h⟩ := h
  refine ⟨hlt, by simp [h2], by omega, fun i hi => Nat.lt_succ_of_lt (h4 i hi), ?_⟩
  rw [drop_at ha] at h
  rw [h, gaps, if_neg hs, if_neg hc, if_pos hl]
  simp
theorem Sofar.more (h : Sofar c A k G K N) (ha : A[k]? = some a) (hs : ¬ c.until_ < c.opn a.J + c.P / 2) (hc : ¬ a.J ≤ c.closed) (hl : lackedFrom c.held a.refs (adv c.held a.refs a.nl) ≠ []) :
    Sofar c A (k + 1) (G ++ (if c.after < a.J then [⟨c.opn a.J, c.ff a.J, a.J, lackedFrom c.held a.refs (adv c.held a.refs a.nl)⟩] else [])) (K ++ [k]) (N ++ [adv c.held a.refs a.nl]) := by
  have hlt := (List.getElem?_eq_some_iff.1 ha).1
  obtain ⟨h1, h2, h3, h4, h⟩ := h
  refine ⟨hlt, by simp [h2], by simp; omega, by intro i hi; rcases List.mem_append.1 hi with hi | hi; exact Nat.lt_succ_of_lt (h4 i hi); simp at hi; omega, ?_⟩
  rw [drop_at ha] at h
  rw [h, gaps, if_neg hs, if_neg hc, if_neg hl]
  simp
theorem Sofar.done (h : Sofar c A k G K N) (hk : A.length ≤ k) : gaps c 0 A = (G, K, N) := by
  obtain ⟨_, _, _, _, h⟩ := h
  rw [List.drop_of_length_le hk] at h
  rw [h]; simp [gaps]
end
/-- the cells of one gap, its ids' slice being v -/
def gc (g : Gap1 × Value) : List Value := [.int .i64 4, .int .i64 g.1.op, .int .i64 g.1.fi, .int .i64 g.1.J, .int .i64 0, g.2, .bool false]
def gcs (l : List (Gap1 × Value)) : List Value := l.flatMap gc
theorem gcs_length (l : List (Gap1 × Value)) : (gcs l).length = l.length * 7 := by
  induction l with
  | nil => rfl
  | cons t r ih => simp only [gcs, List.flatMap_cons, List.length_append, List.length_cons] at ih ⊢; rw [ih]; simp [gc]; omega
/-- the gap that was there before -/
def preCells : List Value := [.int .i64 4, .int .i64 1, .int .i64 9, .int .i64 0, .int .i64 0, .slice none 0 0, .bool false]
theorem info107 : ∃ i, Yba.prog.info? 107 = some i ∧ i.zero = some (.agg #[.int .i64 0, .int .i64 0, .int .i64 0, .int .i64 0, .int .i64 0, .slice none 0 0, .bool false]) ∧ i.size = 7 ∧ i.bytes = 72 := by
  have h : (Yba.prog.info? 107).map (fun i => (i.zero, i.size, i.bytes)) = some (some (.agg #[.int .i64 0, .int .i64 0, .int .i64 0, .int .i64 0, .int .i64 0, .slice none 0 0, .bool false]), 7, 72) := by kernel_rfl
  cases hi : Yba.prog.info? 107 with
  | none => rw [hi] at h; cases h
  | some i =>
    rw [hi] at h
    simp only [Option.map_some, Option.some.injEq, Prod.mk.injEq] at h
    exact ⟨i, rfl, h.1, h.2.1, h.2.2⟩
theorem info92 : ∃ i, Yba.prog.info? 92 = some i ∧ i.zero = some (.pointer none) ∧ i.size = 1 ∧ i.bytes = 8 := by
  have h : (Yba.prog.info? 92).map (fun i => (i.zero, i.size, i.bytes)) = some (some (.pointer none), 1, 8) := by kernel_rfl
  cases hi : Yba.prog.info? 92 with
  | none => rw [hi] at h; cases h
  | some i =>
    rw [hi] at h
    simp only [Option.map_some, Option.some.injEq, Prod.mk.injEq] at h
    exact ⟨i, rfl, h.1, h.2.1, h.2.2⟩
/-- append at a plain region's list, by its run -/
theorem wpList_append_run {P : Program} {w : World} {ops : Array Oper} {rest : List Oper} {o : Oper} {a : Act} {Q : Exit → Act → World → Prop} (hgd : o.guard = none) (s x : Operand) (t : TypeId)
    (ho : o.op = .call { callee := .builtin .append, args := #[s, x], argTypes := #[t, t] }) (v xv v' : Value) (w' : World) (hs : a.eval s = v) (hx : a.eval x = xv)
    (hr : ∀ ty, (Builtin.append_ #[t, t] ty #[v, xv]).run P w = .ok v' w') (h : wpList P ops Q rest (a.put o.dst v') w') : wpList P ops Q (o :: rest) a w := by
  refine wpList_plain hgd fun K hK => ?_
  unfold Oper.wp execOp
  simp only [ho, resolve, invoke, builtin, Sem.run_bind, Sem.run_pure, Result.andThen_ok, List.map_toArray, List.map_cons, List.map_nil, hs, hx, hr]
  exact hK _ _ h
end Go.Proofs.Ybulkdvuo
