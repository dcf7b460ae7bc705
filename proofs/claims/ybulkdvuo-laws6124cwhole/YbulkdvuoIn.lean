import Derived.Test.YbulkdvuoMap
namespace Go.Proofs.Ybulkdvuo
open Go.RowKit
set_option linter.unusedSimpArgs false

/-- three bytes -/
def t8 (t : Tri) : List Value := [.int .u8 t.1, .int .u8 t.2.1, .int .u8 t.2.2]
def T8ok (t : Tri) : Prop := (0 ≤ t.1 ∧ t.1 ≤ 255) ∧ (0 ≤ t.2.1 ∧ t.2.1 ≤ 255) ∧ (0 ≤ t.2.2 ∧ t.2.2 ≤ 255)
/-- a slice of three-byte IDs that reads as l -/
def Rd8 (w : World) (a : Option Addr) (l : List Tri) : Prop := 0 < l.length → ∃ b o, a = some ⟨b, o, none⟩ ∧ b < w.heap.size ∧ w.rangeAt b o (l.flatMap t8)
theorem Rd8.below {w w' : World} {a : Option Addr} {l : List Tri} {B : Nat} (h : Rd8 w a l) (hB : w.heap.size ≤ B) (hb : Below B w w') : Rd8 w' a l := fun h0 => by
  obtain ⟨b, o, e, h1, h2⟩ := h h0
  exact ⟨b, o, e, Nat.lt_of_lt_of_le h1 hb.size, rangeAt_below hb (by omega) h2⟩
/-- one given ACK -/
structure In1 where
  J : Int
  ra : Option Addr
  refs : List Tri
  rc : Nat
  nl : Int
def In1.cells (x : In1) : List Value := [.int .i16 x.J, .slice x.ra x.refs.length x.rc, .int .u8 x.nl]
def In1.ok (x : In1) : Prop := (-32768 ≤ x.J ∧ x.J ≤ 32767) ∧ (0 ≤ x.nl ∧ x.nl ≤ 255) ∧ (∀ t ∈ x.refs, T8ok t) ∧ x.refs.length ≤ 281474976710656
/-- the given ACKs, readable -/
def RdL (w : World) (a : Option Addr) (l : List In1) : Prop := 0 < l.length → ∃ b o, a = some ⟨b, o, none⟩ ∧ b < w.heap.size ∧ w.rangeAt b o (l.flatMap In1.cells)
/-- bytes, readable -/
def Rd1 (w : World) (a : Option Addr) (l : List Int) : Prop := 0 < l.length → ∃ b o, a = some ⟨b, o, none⟩ ∧ b < w.heap.size ∧ w.rangeAt b o (l.map (Value.int .u8))
theorem flatG {α : Type} {f : α → List Value} {n : Nat} : ∀ {l : List α}, (∀ x ∈ l, (f x).length = n) → (l.flatMap f).length = l.length * n
  | [], _ => by simp
  | x :: l, h => by
    have h1 := h x (by simp)
    have h2 := flatG (l := l) (fun y hy => h y (by simp [hy]))
    simp only [List.flatMap_cons, List.length_append, List.length_cons, h1, h2, Nat.add_mul]; omega
theorem splitG {α : Type} {l : List α} {i : Nat} {x : α} (hi : l[i]? = some x) : l = l.take i ++ x :: l.drop (i + 1) := by
  obtain ⟨hlt, rfl⟩ := List.getElem?_eq_some_iff.1 hi
  rw [List.getElem_cons_drop, List.take_append_drop]
theorem flatAt {α : Type} {w : World} {b o n : Nat} {f : α → List Value} {l : List α} (hf : ∀ x ∈ l, (f x).length = n) (h : w.rangeAt b o (l.flatMap f)) {i : Nat} {x : α} (hi : l[i]? = some x) : w.rangeAt b (o + i * n) (f x) := by
  have hlt := (List.getElem?_eq_some_iff.1 hi).1
  rw [splitG hi, List.flatMap_append, List.flatMap_cons, ← List.append_assoc] at h
  have := rangeAt_mid h
  rwa [flatG (fun x hx => hf x (List.mem_of_mem_take hx)), List.length_take, Nat.min_eq_left (by omega)] at this
/-- how many refs in all -/
def tot (l : List In1) : Nat := (l.map (fun x => x.refs.length)).sum
theorem tot_take {l : List In1} {k : Nat} {x : In1} (h : l[k]? = some x) : tot (l.take (k + 1)) = tot (l.take k) + x.refs.length := by
  unfold tot
  rw [List.take_add_one, h]; simp
theorem tot_le {l : List In1} (h : ∀ x ∈ l, x.refs.length ≤ 281474976710656) : tot l ≤ l.length * 281474976710656 := by
  induction l with
  | nil => simp [tot]
  | cons x r ih =>
    have h1 := h x (by simp)
    have h2 := ih (fun y hy => h y (by simp [hy]))
    unfold tot at h2 ⊢
    simp only [List.map_cons, List.sum_cons, List.length_cons]; omega
theorem three_at {w : World} {b o : Nat} {x y z : Value} (h : w.rangeAt b o [x, y, z]) : w.cell? ⟨b, o, none⟩ = some x ∧ w.cell? ⟨b, o + 1, none⟩ = some y ∧ w.cell? ⟨b, o + 2, none⟩ = some z :=
  ⟨h 0 x rfl, h 1 y rfl, h 2 z rfl⟩
/-- the Member's block, its cells the list M -/
structure MemB (w : World) (mb : Nat) (M : List Value) : Prop where
  blk : w.heap[mb]? = some (.cells M.toArray 81 (0, 0))
  len : M.length = 74
theorem MemB.cell {w : World} {mb o : Nat} {M : List Value} {v : Value} (h : MemB w mb M) (hv : M[o]? = some v) : w.cell? ⟨mb, o, none⟩ = some v := by
  rw [cell_of_row w mb o _ _ _ h.blk]; simpa using hv
theorem MemB.free {w : World} {mb : Nat} {M : List Value} (h : MemB w mb M) (o : Nat) : w.frozen? ⟨mb, o, none⟩ = false := by
  unfold World.frozen?
  rw [show (⟨mb, o, none⟩ : Addr).block = mb from rfl, h.blk]; simp
theorem MemB.lt {w : World} {mb : Nat} {M : List Value} (h : MemB w mb M) : mb < w.heap.size := (Array.getElem?_eq_some_iff.1 h.blk).1
theorem MemB.keep {w w' : World} {mb : Nat} {M : List Value} (h : MemB w mb M) (hk : w'.heap[mb]? = w.heap[mb]?) : MemB w' mb M := ⟨hk.trans h.blk, h.len⟩
theorem MemB.set {w : World} {mb : Nat} {M : List Value} (h : MemB w mb M) (o : Nat) (v : Value) : MemB (w.setCell ⟨mb, o, none⟩ v) mb (M.set o v) := by
  refine ⟨?_, by rw [List.length_set]; exact h.len⟩
  unfold World.setCell
  simp [Array.getElem?_modify, h.blk]
/-- what the Member's cells are -/
structure MF (M : List Value) (mid T r P now : Int) (hb ls : Nat) : Prop where
  m0 : M[0]? = some (.int .i64 mid)
  m1 : M[1]? = some (.int .i64 T)
  m2 : M[2]? = some (.int .i64 r)
  m3 : M[3]? = some (.int .i64 P)
  m4 : M[4]? = some (.int .i64 0)
  m30 : M[30]? = some (.int .i64 now)
  m33 : M[33]? = some (.map (some hb))
  m37 : M[37]? = some (.map none)
  m58 : M[58]? = some (.map (some ls))
theorem MF.set {M : List Value} {mid T r P now : Int} {hb ls o : Nat} {v : Value} (h : MF M mid T r P now hb ls) (ho : o = 8 ∨ o = 15 ∨ o = 39 ∨ o = 42) : MF (M.set o v) mid T r P now hb ls := by
  have k : ∀ j, (j ≠ 8 ∧ j ≠ 15 ∧ j ≠ 39 ∧ j ≠ 42) → (M.set o v)[j]? = M[j]? := fun j hj => List.getElem?_set_ne (by omega)
  exact ⟨(k _ (by omega)).trans h.m0, (k _ (by omega)).trans h.m1, (k _ (by omega)).trans h.m2, (k _ (by omega)).trans h.m3, (k _ (by omega)).trans h.m4, (k _ (by omega)).trans h.m30, (k _ (by omega)).trans h.m33, (k _ (by omega)).trans h.m37, (k _ (by omega)).trans h.m58⟩
theorem mf_new (Z : List Value) (hl : Z.length = 74) (h37 : Z[37]? = some (.map none)) (mid T r P now : Int) (b : Nat) : MF ((memCells Z mid T r P b).set 30 (.int .i64 now)) mid T r P now b (b + 4) := by
  unfold memCells
  refine ⟨?_, ?_, ?_, ?_, ?_, ?_, ?_, ?_, ?_⟩ <;> (repeat (first | rw [List.getElem?_set_ne (by decide)] | (rw [List.getElem?_set_self (by simp [hl])]; done))) <;> assumption
theorem mz_new (Z : List Value) (mid T r P now : Int) (b o : Nat) (v : Value) (hv : Z[o]? = some v) (ho : o = 8 ∨ o = 15 ∨ o = 39 ∨ o = 42) : ((memCells Z mid T r P b).set 30 (.int .i64 now))[o]? = some v := by
  unfold memCells
  rcases ho with rfl | rfl | rfl | rfl <;> (repeat rw [List.getElem?_set_ne (by decide)]) <;> exact hv
/-- an ID as the law makes it -/
def m4 (t : Tri) : Tri := (t.1 % 4, t.2.1 % 4, t.2.2 % 3)
/-- the world within loop 2 and behind it -/
structure S2 (wc wr : World) (mb hb ls hib n : Nat) (M : List Value) (ids : List Tri) : Prop where
  low : Below wc.heap.size wc wr
  mem : MemB wr mb M
  seq : wr.heap[ls]? = some (.map #[] 0)
  th : wr.there hib 0 (n * 3)
  rd : wr.rangeAt hib 0 (tcs ids)
  hld : ∃ (es : Array MapEntry) (ck : Nat) (l : List Tri), wr.heap[hb]? = some (.map es ck) ∧ Ents es.toList l ∧ ∀ t, t ∈ l ↔ t ∈ ids
  lt : hib < wr.heap.size
  pl : wc.heap.size ≤ hb ∧ hb < ls ∧ ls < mb ∧ mb < hib
theorem S2.below {wc wr w' : World} {mb hb ls hib n : Nat} {M : List Value} {ids : List Tri} (h : S2 wc wr mb hb ls hib n M ids) (hb' : Below wr.heap.size wr w') : S2 wc w' mb hb ls hib n M ids := by
  have hp := h.pl
  have hl := h.lt
  obtain ⟨es, ck, l, e1, e2⟩ := h.hld
  exact ⟨h.low.trans (hb'.mono h.low.size), h.mem.keep (hb'.block _ (by omega)), (hb'.block _ (by omega)).trans h.seq, there_below hb' hl h.th, rangeAt_below hb' hl h.rd, ⟨es, ck, l, (hb'.block _ (by omega)).trans e1, e2⟩, Nat.lt_of_lt_of_le hl hb'.size, hp⟩
/-- one ID more is laid into the row -/
theorem S2.store {wc wr : World} {mb hb ls hib n : Nat} {M : List Value} {ids : List Tri} (h : S2 wc wr mb hb ls hib n M ids) (hi : ids.length < n) (t : Tri) :
    (wr.setCells hib (ids.length * 3) (tc t)).rangeAt hib 0 (tcs (ids ++ [t])) ∧ Below wc.heap.size wc (wr.setCells hib (ids.length * 3) (tc t)) ∧ MemB (wr.setCells hib (ids.length * 3) (tc t)) mb M ∧ (wr.setCells hib (ids.length * 3) (tc t)).heap[ls]? = some (.map #[] 0) ∧ (wr.setCells hib (ids.length * 3) (tc t)).there hib 0 (n * 3) ∧
      (wr.setCells hib (ids.length * 3) (tc t)).heap[hb]? = wr.heap[hb]? ∧ (wr.setCells hib (ids.length * 3) (tc t)).heap.size = wr.heap.size := by
  have hp := h.pl
  refine ⟨?_, below_setCells h.low (by omega) _ _, h.mem.keep (heap_setCells (by omega) _ _), (heap_setCells (by omega) _ _).trans h.seq, World.there_setCells h.th _ _ _, heap_setCells (by omega) _ _, size_setCells _ _⟩
  rw [tcs_append]
  refine rangeAt_join (World.rangeAt_setCells_apart h.rd _ _ _ (by rw [tcs_length]; omega)) ?_
  rw [tcs_length, Nat.zero_add]
  have : tcs [t] = tc t := by simp [tcs]
  rw [this]
  exact World.rangeAt_setCells_same _ _ _ _ (there_sub h.th (by show ids.length * 3 + 3 ≤ _; omega))
/-- a map's update, come up in a drawn region -/
theorem come_map {P : Program} {ops : Array Oper} {Q : Exit → Act → World → Prop} {o : Oper} {a : Act} {w w' : World} {K : Act → World → Prop} {E : Prop} (hw : Region.wanted o (yielded ops a.tmps) = true) (hd : o.dst = none) (t : TypeId) (m k v : Operand) (ho : o.op = .mapUpdate t m k v) (mv kv vv : Value) (hm : a.eval m = mv) (hk : a.eval k = kv) (hv : a.eval v = vv)
    (hr : (Instr.mapUpdate t mv kv vv).run P w = .ok () w') (h : K a w') : if Region.wanted o (yielded ops a.tmps) = true then Oper.wp P o a w K Q else E := by
  rw [if_pos hw]
  unfold Oper.wp execOp
  simp only [ho, hm, hk, hv, Sem.run_bind, hr, Result.andThen_ok]
  have : a.put o.dst undef = a := by rw [hd]; rfl
  show K (a.put o.dst undef) w'
  rw [this]; exact h
/-- behind the map's update one ID more is held -/
theorem S2.put {wc wr : World} {mb hb ls hib n : Nat} {M : List Value} {ids : List Tri} (h : S2 wc wr mb hb ls hib n M ids) (hi : ids.length < n) (t : Tri) :
    ∃ w', (Instr.mapUpdate 53 (.map (some hb)) (ky t) (vl t)).run Yba.prog (wr.setCells hib (ids.length * 3) (tc t)) = .ok () w' ∧ S2 wc w' mb hb ls hib n M (ids ++ [t]) ∧ (∀ g, g ≠ hb → w'.heap[g]? = (wr.setCells hib (ids.length * 3) (tc t)).heap[g]?) := by
  have hp := h.pl
  obtain ⟨h1, h2, h3, h4, h5, h6, h7⟩ := h.store hi t
  have hlt := h.lt
  generalize wr.setCells hib (ids.length * 3) (tc t) = W at *
  obtain ⟨es, ck, l, e1, e2, e3⟩ := h.hld
  obtain ⟨es', ck', hr, he⟩ := update_held t hb es ck l W (h6.trans e1) e2
  have hk : ∀ g, g ≠ hb → ({ W with heap := W.heap.setIfInBounds hb (.map es' ck') } : World).heap[g]? = W.heap[g]? := fun g hg => by
    show (W.heap.setIfInBounds hb _)[g]? = _
    rw [Array.getElem?_setIfInBounds, if_neg (fun e => hg e.symm)]
  have hbl : hb < W.heap.size := by omega
  refine ⟨_, hr, ⟨?_, h3.keep (hk _ (by omega)), (hk _ (by omega)).trans h4, fun j hj => ?_, fun j v hj => ?_, ⟨es', ck', _, ?_, he, fun u => ?_⟩, ?_, hp⟩, hk⟩
  · exact ⟨h2.os, h2.tape, h2.output, by have := h2.size; simpa using this, fun g hg => (hk g (by omega)).trans (h2.block g hg)⟩
  · have := h5 j hj
    exact ⟨by rw [World.cell?_of_block (a := ⟨hib, 0 + j, none⟩) (hk hib (by omega))]; exact this.1, by rw [World.frozen?_of_block (a := ⟨hib, 0 + j, none⟩) (hk hib (by omega))]; exact this.2⟩
  · rw [World.cell?_of_block (a := ⟨hib, 0 + j, none⟩) (hk hib (by omega))]; exact h1 j v hj
  · show (W.heap.setIfInBounds hb _)[hb]? = _
    simp [hbl]
  · by_cases hm : t ∈ l
    · rw [if_pos hm, e3]
      constructor
      · intro hu; simp [hu]
      · intro hu
        rcases List.mem_append.1 hu with hu | hu
        · exact hu
        · simp at hu; subst hu; exact (e3 _).1 hm
    · rw [if_neg hm, List.mem_append, List.mem_append, e3]
  · show hib < (W.heap.setIfInBounds hb _).size
    simp; omega
theorem info3 : ∃ i, Yba.prog.info? 3 = some i ∧ i.zero = some (.int .i64 0) ∧ i.size = 1 ∧ i.bytes = 8 := by
  have h : (Yba.prog.info? 3).map (fun i => (i.zero, i.size, i.bytes)) = some (some (.int .i64 0), 1, 8) := by kernel_rfl
  cases hi : Yba.prog.info? 3 with
  | none => rw [hi] at h; cases h
  | some i =>
    rw [hi] at h
    simp only [Option.map_some, Option.some.injEq, Prod.mk.injEq] at h
    exact ⟨i, rfl, h.1, h.2.1, h.2.2⟩
/-- an entry of the order as the law makes it -/
def m6 (x : Int) : Int := 1 + x % 6
/-- behind loop 2: a block of its own is written, the rest stands -/
theorem S2.other {wc wr w' : World} {mb hb ls hib n ob : Nat} {M : List Value} {ids : List Tri} (h : S2 wc wr mb hb ls hib n M ids) (ho : hib < ob) (hw : w'.os = wr.os ∧ w'.tape = wr.tape ∧ w'.output = wr.output ∧ wr.heap.size ≤ w'.heap.size) (hk : ∀ g, g < wr.heap.size → g ≠ ob → w'.heap[g]? = wr.heap[g]?) : S2 wc w' mb hb ls hib n M ids := by
  have hp := h.pl
  have hl := h.lt
  have hs := h.low.size
  obtain ⟨es, ck, l, e1, e2⟩ := h.hld
  have hkh := hk hib (by omega) (by omega)
  refine ⟨⟨hw.1.trans h.low.os, hw.2.1.trans h.low.tape, hw.2.2.1.trans h.low.output, by omega, fun g hg => (hk g (by omega) (by omega)).trans (h.low.block g hg)⟩, h.mem.keep (hk _ (by omega) (by omega)), (hk _ (by omega) (by omega)).trans h.seq, fun j hj => ?_, fun j v hj => ?_, ⟨es, ck, l, (hk _ (by omega) (by omega)).trans e1, e2⟩, by omega, hp⟩
  · have := h.th j hj
    exact ⟨by rw [World.cell?_of_block (a := ⟨hib, 0 + j, none⟩) hkh]; exact this.1, by rw [World.frozen?_of_block (a := ⟨hib, 0 + j, none⟩) hkh]; exact this.2⟩
  · rw [World.cell?_of_block (a := ⟨hib, 0 + j, none⟩) hkh]; exact h.rd j v hj
end Go.Proofs.Ybulkdvuo
