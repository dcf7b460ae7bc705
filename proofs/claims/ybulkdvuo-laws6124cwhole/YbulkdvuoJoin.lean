import Derived.Test.YbulkdvuoIn
namespace Go.Proofs.Ybulkdvuo
open Go.RowKit
set_option linter.unusedSimpArgs false

/-- the map of last numbers behind its one update -/
def seqMap (q : Int) : Obj := .map #[{ key := .int .i64 1, val := .int .i64 q, born := 0 }] 1
theorem update68 (r : Nat) (q : Int) (w : World) (hh : w.heap[r]? = some (.map #[] 0)) :
    (Instr.mapUpdate 68 (.map (some r)) (.int .i64 1) (.int .i64 q)).run Yba.prog w = .ok () { w with heap := w.heap.setIfInBounds r (seqMap q) } := by
  have hg := MapKept.run_getObj_map (P := Yba.prog) hh
  have hs := fun o => MapKept.run_setObj_map (P := Yba.prog) o hh
  have hc := fun e => check_int 84 .i64 9999 e (.int .i64 1) Yba.underlying84 w
  simp [Instr.mapUpdate, run_underlying Yba.underlying68, run_underlying Yba.underlying84, hg, hc, Instr.findKey, Instr.findNow, hs, seqMap]
theorem look68 (r : Nat) (q : Int) (w : World) (hh : w.heap[r]? = some (seqMap q)) : (Instr.lookup 68 (.map (some r)) (.int .i64 1) false).run Yba.prog w = .ok (.int .i64 q) w := by
  have hg := MapKept.run_getObj_map (P := Yba.prog) (es := #[{ key := .int .i64 1, val := .int .i64 q, born := 0 }]) (clock := 1) hh
  have hc := fun e => check_int 84 .i64 9999 e (.int .i64 1) Yba.underlying84 w
  simp [Instr.lookup, run_underlying Yba.underlying68, run_underlying Yba.underlying84, hg, hc, Instr.findKey, Instr.findNow, Instr.sameNow]
/-- asksMessagesAfter answers 'after' in every world that keeps what it reads -/
def AftOk (wr : World) (mb : Nat) (after : Int) : Prop := ∀ W : World, (∀ g, g < wr.heap.size → g ≠ mb → W.heap[g]? = wr.heap[g]?) → (∀ o, o ≠ 42 → W.cell? ⟨mb, o, none⟩ = wr.cell? ⟨mb, o, none⟩) → wr.heap.size ≤ W.heap.size →
  Calls Yba.prog 12 #[.pointer (some ⟨mb, 0, none⟩)] W fun e w' => e = .returned (.int .i64 after) ∧ Below W.heap.size W w'
theorem aft_not {wr : World} {mb : Nat} {M : List Value} (hm : MemB wr mb M) (s : ByteArray) (h15 : M[15]? = some (.string s)) (hs : (s.toList == [106, 111, 105, 110, 105, 110, 103]) = false) : AftOk wr mb 0 := fun W _ hc _ => by
  refine (asksAfter_not mb s W ((hc 15 (by omega)).trans (hm.cell h15)) hs).mono ?_
  rintro e w' ⟨rfl, rfl⟩
  exact ⟨rfl, Below.refl _ _⟩
theorem aft0 {wr : World} {mb ls : Nat} {M : List Value} {id q : Int} (hm : MemB wr mb M) (h15 : M[15]? = some (.string ⟨#[106, 111, 105, 110, 105, 110, 103]⟩)) (h0 : M[0]? = some (.int .i64 id)) (h58 : M[58]? = some (.map (some ls))) (hl : wr.heap[ls]? = some (seqMap q)) (hne : ls ≠ mb) (h39 : M[39]? = some (.slice none 0 0)) : AftOk wr mb 9223372036854775807 := fun W hk hc hs => by
  have hll : ls < wr.heap.size := (Array.getElem?_eq_some_iff.1 hl).1
  have hml := hm.lt
  exact asksAfter0 mb ls (seqMap q) id q W (by omega) ((hc 15 (by omega)).trans (hm.cell h15)) ((hc 0 (by omega)).trans (hm.cell h0)) ((hc 58 (by omega)).trans (hm.cell h58)) ((hk ls hll hne).trans hl) (fun w' hw' => look68 ls q w' hw') none 0 ((hc 39 (by omega)).trans (hm.cell h39))
theorem aft1 {wr : World} {mb ls kb ab rb : Nat} {M : List Value} {id q J : Int} (hm : MemB wr mb M) (h15 : M[15]? = some (.string ⟨#[106, 111, 105, 110, 105, 110, 103]⟩)) (h0 : M[0]? = some (.int .i64 id)) (h58 : M[58]? = some (.map (some ls))) (hl : wr.heap[ls]? = some (seqMap q)) (hne : ls ≠ mb) (h39 : M[39]? = some (.slice (some ⟨kb, 0, none⟩) 1 1))
    (hkb : kb < wr.heap.size ∧ kb ≠ mb) (hab : ab < wr.heap.size ∧ ab ≠ mb) (hrb : rb < wr.heap.size ∧ rb ≠ mb) (k0 : wr.cell? ⟨kb, 0, none⟩ = some (.pointer (some ⟨ab, 0, none⟩))) (a0 : wr.cell? ⟨ab, 0, none⟩ = some (.int .i64 J)) (a1 : wr.cell? ⟨ab, 1, none⟩ = some (.slice (some ⟨rb, 0, none⟩) 1 1))
    (r0 : wr.cell? ⟨rb, 0, none⟩ = some (.int .i64 id)) (r1 : wr.cell? ⟨rb, 1, none⟩ = some (.int .i64 q)) (r2 : wr.cell? ⟨rb, 2, none⟩ = some (.int .i64 1)) : AftOk wr mb J := fun W hk hc hs => by
  have hll : ls < wr.heap.size := (Array.getElem?_eq_some_iff.1 hl).1
  have hml := hm.lt
  have ck : ∀ b o, b < wr.heap.size → b ≠ mb → W.cell? ⟨b, o, none⟩ = wr.cell? ⟨b, o, none⟩ := fun b o h1 h2 => World.cell?_of_block (a := ⟨b, o, none⟩) (hk b h1 h2)
  exact asksAfter1 mb ls (seqMap q) id q W (by omega) ((hc 15 (by omega)).trans (hm.cell h15)) ((hc 0 (by omega)).trans (hm.cell h0)) ((hc 58 (by omega)).trans (hm.cell h58)) ((hk ls hll hne).trans hl) (fun w' hw' => look68 ls q w' hw') kb ab rb J (by omega) (by omega) (by omega) ((hc 39 (by omega)).trans (hm.cell h39))
    ((ck _ _ hkb.1 hkb.2).trans k0) ((ck _ _ hab.1 hab.2).trans a0) ((ck _ _ hab.1 hab.2).trans a1) ((ck _ _ hrb.1 hrb.2).trans r0) ((ck _ _ hrb.1 hrb.2).trans r1) ((ck _ _ hrb.1 hrb.2).trans r2)
/-- the world behind the join -/
structure S3 (wc wr : World) (mb hb hib ob rg : Nat) (M : List Value) (ids : List Tri) (oi : List Value) (fr fi : Int) (on : Nat) (after : Int) : Prop where
  low : Below wc.heap.size wc wr
  mem : MemB wr mb M
  rd : wr.rangeAt hib 0 (tcs ids)
  hld : ∃ (es : Array MapEntry) (ck : Nat) (l : List Tri), wr.heap[hb]? = some (.map es ck) ∧ Ents es.toList l ∧ ∀ t, t ∈ l ↔ t ∈ ids
  ordr : wr.rangeAt ob 0 oi
  ring : wr.rangeAt rg 0 [.int .i64 0, .int .i64 fr, .int .i64 fi, .slice (some ⟨ob, 0, none⟩) on on]
  m8 : M[8]? = some (.slice (some ⟨rg, 0, none⟩) 1 1)
  m42 : M[42]? = some (.slice none 0 0)
  aft : AftOk wr mb after
  pl : wc.heap.size ≤ hb ∧ hb < mb ∧ mb < hib ∧ hib < ob ∧ ob < rg ∧ rg < wr.heap.size
/-- the slot after which the member asks -/
def aftOf (on held : Bool) (J : Int) : Int := if on then (if held then J else 9223372036854775807) else 0
/-- a map's update at a plain region's list, by its run -/
theorem wpList_map_run {P : Program} {w w' : World} {ops : Array Oper} {rest : List Oper} {o : Oper} {a : Act} {Q : Exit → Act → World → Prop} (hgd : o.guard = none) (t : TypeId) (m k v : Operand) (ho : o.op = .mapUpdate t m k v) (hd : o.dst = none) (mv kv vv : Value) (hm : a.eval m = mv) (hk : a.eval k = kv) (hv : a.eval v = vv)
    (hr : (Instr.mapUpdate t mv kv vv).run P w = .ok () w') (h : wpList P ops Q rest a w') : wpList P ops Q (o :: rest) a w := by
  refine wpList_plain hgd fun K hK => ?_
  unfold Oper.wp execOp
  simp only [ho, hm, hk, hv, Sem.run_bind, hr, Result.andThen_ok]
  have : a.put o.dst undef = a := by rw [hd]; rfl
  show K (a.put o.dst undef) w'
  rw [this]; exact hK _ _ h
/-- a cell of the Member written -/
theorem S2.mset {wc wr : World} {mb hb ls hib n : Nat} {M : List Value} {ids : List Tri} (h : S2 wc wr mb hb ls hib n M ids) (o : Nat) (v : Value) : S2 wc (wr.setCell ⟨mb, o, none⟩ v) mb hb ls hib n (M.set o v) ids := by
  have hp := h.pl
  have hk : ∀ g, g ≠ mb → (wr.setCell ⟨mb, o, none⟩ v).heap[g]? = wr.heap[g]? := fun g hg => Go.Deep.blk_setCell_other _ _ _ _ hg
  obtain ⟨es, ck, l, e1, e2⟩ := h.hld
  have hl1 := h.lt
  refine ⟨h.low.setCell (by show wc.heap.size ≤ mb; omega) _, h.mem.set o _, (hk _ (by omega)).trans h.seq, fun j hj => ?_, fun j v hj => ?_, ⟨es, ck, l, (hk _ (by omega)).trans e1, e2⟩, by simpa using hl1, hp⟩
  · have := h.th j hj
    exact ⟨by rw [World.cell?_of_block (a := ⟨hib, 0 + j, none⟩) (hk hib (by omega))]; exact this.1, by rw [World.frozen?_of_block (a := ⟨hib, 0 + j, none⟩) (hk hib (by omega))]; exact this.2⟩
  · rw [World.cell?_of_block (a := ⟨hib, 0 + j, none⟩) (hk hib (by omega))]; exact h.rd j v hj
/-- the Member told of the ring, the ring laid -/
theorem S2.ring {wc wr : World} {mb hb ls hib n ob : Nat} {M : List Value} {ids : List Tri} {fr fi : Int} {on : Nat} (h : S2 wc wr mb hb ls hib n M ids) :
    S2 wc ((wr.setCell ⟨mb, 8, none⟩ (.slice (some ⟨wr.heap.size, 0, none⟩) 1 1)).alloc (.cells #[.int .i64 0, .int .i64 fr, .int .i64 fi, .slice (some ⟨ob, 0, none⟩) on on] 50)) mb hb ls hib n (M.set 8 (.slice (some ⟨wr.heap.size, 0, none⟩) 1 1)) ids ∧
      ((wr.setCell ⟨mb, 8, none⟩ (.slice (some ⟨wr.heap.size, 0, none⟩) 1 1)).alloc (.cells #[.int .i64 0, .int .i64 fr, .int .i64 fi, .slice (some ⟨ob, 0, none⟩) on on] 50)).rangeAt wr.heap.size 0 [.int .i64 0, .int .i64 fr, .int .i64 fi, .slice (some ⟨ob, 0, none⟩) on on] := by
  refine ⟨(h.mset 8 _).below ((Below.refl _ _).alloc (Nat.le_refl _) _), fun j v hj => ?_⟩
  have hs : (wr.setCell ⟨mb, 8, none⟩ (.slice (some ⟨wr.heap.size, 0, none⟩) 1 1)).heap.size = wr.heap.size := by simp
  have hn := heap_alloc_new (wr.setCell ⟨mb, 8, none⟩ (.slice (some ⟨wr.heap.size, 0, none⟩) 1 1)) (.cells #[.int .i64 0, .int .i64 fr, .int .i64 fi, .slice (some ⟨ob, 0, none⟩) on on] 50)
  rw [hs] at hn
  rw [Nat.zero_add, cell_of_row _ _ j _ _ _ hn]; simpa using hj
/-- the bytes of 'joining' -/
def jng : Value := .string ⟨#[106, 111, 105, 110, 105, 110, 103]⟩
/-- behind the join's two first writes -/
structure S2j (wc wr w' : World) (mb hb ls hib : Nat) (M : List Value) (ids : List Tri) (q : Int) : Prop where
  low : Below wc.heap.size wc w'
  mem : MemB w' mb (M.set 15 jng)
  rd : w'.rangeAt hib 0 (tcs ids)
  hld : ∃ (es : Array MapEntry) (ck : Nat) (l : List Tri), w'.heap[hb]? = some (.map es ck) ∧ Ents es.toList l ∧ ∀ t, t ∈ l ↔ t ∈ ids
  sq : w'.heap[ls]? = some (seqMap q)
  oth : ∀ g, g ≠ ls → g ≠ mb → w'.heap[g]? = wr.heap[g]?
  sz : w'.heap.size = wr.heap.size
theorem S2.join {wc wr : World} {mb hb ls hib n : Nat} {M : List Value} {ids : List Tri} (h : S2 wc wr mb hb ls hib n M ids) (q : Int) :
    ∃ w', (Instr.mapUpdate 68 (.map (some ls)) (.int .i64 1) (.int .i64 q)).run Yba.prog (wr.setCell ⟨mb, 15, none⟩ jng) = .ok () w' ∧ S2j wc wr w' mb hb ls hib M ids q := by
  have h1 := h.mset 15 jng
  have hp := h.pl
  have hl := h.lt
  have hs : (wr.setCell ⟨mb, 15, none⟩ jng).heap.size = wr.heap.size := by simp
  have hb0 : ∀ g, g ≠ mb → (wr.setCell ⟨mb, 15, none⟩ jng).heap[g]? = wr.heap[g]? := fun g hg => Go.Deep.blk_setCell_other _ _ _ _ hg
  generalize wr.setCell ⟨mb, 15, none⟩ jng = W at *
  have hr := update68 ls q W h1.seq
  have hk : ∀ g, g ≠ ls → ({ W with heap := W.heap.setIfInBounds ls (seqMap q) } : World).heap[g]? = W.heap[g]? := fun g hg => by
    show (W.heap.setIfInBounds ls _)[g]? = _
    rw [Array.getElem?_setIfInBounds, if_neg (fun e => hg e.symm)]
  obtain ⟨es, ck, l, e1, e2⟩ := h1.hld
  refine ⟨_, hr, ?_, h1.mem.keep (hk _ (by omega)), fun j v hj => ?_, ⟨es, ck, l, (hk _ (by omega)).trans e1, e2⟩, ?_, fun g h2 h3 => (hk g h2).trans (hb0 g h3), ?_⟩
  · exact ⟨h1.low.os, h1.low.tape, h1.low.output, by have := h1.low.size; simpa using this, fun g hg => (hk g (by omega)).trans (h1.low.block g hg)⟩
  · rw [World.cell?_of_block (a := ⟨hib, 0 + j, none⟩) (hk hib (by omega))]; exact h1.rd j v hj
  · show (W.heap.setIfInBounds ls _)[ls]? = _
    simp [show ls < W.heap.size by omega]
  · show (W.heap.setIfInBounds ls _).size = _
    simp [hs]
/-- the join's ack laid -/
theorem join_held {wc wG w8 : World} {mb hb ls hib ob rg : Nat} {M : List Value} {ids : List Tri} {oi : List Value} {fr fi q id J : Int} {on : Nat} (h : S2j wc wG w8 mb hb ls hib M ids q) (hl : M.length = 74) (ho : wG.rangeAt ob 0 oi) (hr : wG.rangeAt rg 0 [.int .i64 0, .int .i64 fr, .int .i64 fi, .slice (some ⟨ob, 0, none⟩) on on])
    (h8 : M[8]? = some (.slice (some ⟨rg, 0, none⟩) 1 1)) (h42 : M[42]? = some (.slice none 0 0)) (h0 : M[0]? = some (.int .i64 id)) (h58 : M[58]? = some (.map (some ls))) (hp : wc.heap.size ≤ hb ∧ hb < ls ∧ ls < mb ∧ mb < hib ∧ hib < ob ∧ ob < rg ∧ rg < wG.heap.size) :
    S3 wc ((((w8.alloc (.cells #[.int .i64 id, .int .i64 q, .int .i64 1] 86)).alloc (.cells #[.int .i64 J, .slice (some ⟨w8.heap.size, 0, none⟩) 1 1, .int .i64 0, .int .i64 0, .slice none 0 0, .int .i64 0, .int .i64 0, .slice none 0 0, .slice none 0 0, .int .i64 0, .int .i64 0, .int .i64 0, .int .i64 0, .int .i64 0, .int .i64 0, .int .i64 0] 101)).alloc (.cells #[.pointer (some ⟨w8.heap.size + 1, 0, none⟩)] 92)).setCell ⟨mb, 39, none⟩ (.slice (some ⟨w8.heap.size + 1 + 1, 0, none⟩) 1 1)) mb hb hib ob rg ((M.set 15 jng).set 39 (.slice (some ⟨w8.heap.size + 1 + 1, 0, none⟩) 1 1)) ids oi fr fi on J := by
  have hs := h.sz
  have hB : Below w8.heap.size w8 (((w8.alloc (.cells #[.int .i64 id, .int .i64 q, .int .i64 1] 86)).alloc (.cells #[.int .i64 J, .slice (some ⟨w8.heap.size, 0, none⟩) 1 1, .int .i64 0, .int .i64 0, .slice none 0 0, .int .i64 0, .int .i64 0, .slice none 0 0, .slice none 0 0, .int .i64 0, .int .i64 0, .int .i64 0, .int .i64 0, .int .i64 0, .int .i64 0, .int .i64 0] 101)).alloc (.cells #[.pointer (some ⟨w8.heap.size + 1, 0, none⟩)] 92)) := by
    repeat (first | exact Below.refl _ _ | refine Below.alloc ?_ (by simp <;> omega) _)
  have b0 : (((w8.alloc (.cells #[.int .i64 id, .int .i64 q, .int .i64 1] 86)).alloc (.cells #[.int .i64 J, .slice (some ⟨w8.heap.size, 0, none⟩) 1 1, .int .i64 0, .int .i64 0, .slice none 0 0, .int .i64 0, .int .i64 0, .slice none 0 0, .slice none 0 0, .int .i64 0, .int .i64 0, .int .i64 0, .int .i64 0, .int .i64 0, .int .i64 0, .int .i64 0] 101)).alloc (.cells #[.pointer (some ⟨w8.heap.size + 1, 0, none⟩)] 92)).heap[w8.heap.size]? = some (.cells #[.int .i64 id, .int .i64 q, .int .i64 1] 86) := by
    repeat (first | (refine alloc_at ?_; simp; done) | (refine alloc_bef ?_))
  have b1 : (((w8.alloc (.cells #[.int .i64 id, .int .i64 q, .int .i64 1] 86)).alloc (.cells #[.int .i64 J, .slice (some ⟨w8.heap.size, 0, none⟩) 1 1, .int .i64 0, .int .i64 0, .slice none 0 0, .int .i64 0, .int .i64 0, .slice none 0 0, .slice none 0 0, .int .i64 0, .int .i64 0, .int .i64 0, .int .i64 0, .int .i64 0, .int .i64 0, .int .i64 0] 101)).alloc (.cells #[.pointer (some ⟨w8.heap.size + 1, 0, none⟩)] 92)).heap[w8.heap.size + 1]? = some (.cells #[.int .i64 J, .slice (some ⟨w8.heap.size, 0, none⟩) 1 1, .int .i64 0, .int .i64 0, .slice none 0 0, .int .i64 0, .int .i64 0, .slice none 0 0, .slice none 0 0, .int .i64 0, .int .i64 0, .int .i64 0, .int .i64 0, .int .i64 0, .int .i64 0, .int .i64 0] 101) := by
    repeat (first | (refine alloc_at ?_; simp; done) | (refine alloc_bef ?_))
  have b2 : (((w8.alloc (.cells #[.int .i64 id, .int .i64 q, .int .i64 1] 86)).alloc (.cells #[.int .i64 J, .slice (some ⟨w8.heap.size, 0, none⟩) 1 1, .int .i64 0, .int .i64 0, .slice none 0 0, .int .i64 0, .int .i64 0, .slice none 0 0, .slice none 0 0, .int .i64 0, .int .i64 0, .int .i64 0, .int .i64 0, .int .i64 0, .int .i64 0, .int .i64 0] 101)).alloc (.cells #[.pointer (some ⟨w8.heap.size + 1, 0, none⟩)] 92)).heap[w8.heap.size + 2]? = some (.cells #[.pointer (some ⟨w8.heap.size + 1, 0, none⟩)] 92) := by
    repeat (first | (refine alloc_at ?_; simp; done) | (refine alloc_bef ?_))
  have hz : (((w8.alloc (.cells #[.int .i64 id, .int .i64 q, .int .i64 1] 86)).alloc (.cells #[.int .i64 J, .slice (some ⟨w8.heap.size, 0, none⟩) 1 1, .int .i64 0, .int .i64 0, .slice none 0 0, .int .i64 0, .int .i64 0, .slice none 0 0, .slice none 0 0, .int .i64 0, .int .i64 0, .int .i64 0, .int .i64 0, .int .i64 0, .int .i64 0, .int .i64 0] 101)).alloc (.cells #[.pointer (some ⟨w8.heap.size + 1, 0, none⟩)] 92)).heap.size = w8.heap.size + 3 := by simp
  generalize (((w8.alloc (.cells #[.int .i64 id, .int .i64 q, .int .i64 1] 86)).alloc (.cells #[.int .i64 J, .slice (some ⟨w8.heap.size, 0, none⟩) 1 1, .int .i64 0, .int .i64 0, .slice none 0 0, .int .i64 0, .int .i64 0, .slice none 0 0, .slice none 0 0, .int .i64 0, .int .i64 0, .int .i64 0, .int .i64 0, .int .i64 0, .int .i64 0, .int .i64 0] 101)).alloc (.cells #[.pointer (some ⟨w8.heap.size + 1, 0, none⟩)] 92)) = Y at *
  have hn : ∀ g, g ≠ mb → (Y.setCell ⟨mb, 39, none⟩ (.slice (some ⟨w8.heap.size + 1 + 1, 0, none⟩) 1 1)).heap[g]? = Y.heap[g]? := fun g h2 => Go.Deep.blk_setCell_other _ _ _ _ h2
  have hk : ∀ g, g < w8.heap.size → g ≠ mb → (Y.setCell ⟨mb, 39, none⟩ (.slice (some ⟨w8.heap.size + 1 + 1, 0, none⟩) 1 1)).heap[g]? = w8.heap[g]? := fun g h1 h2 => (hn g h2).trans (hB.block g h1)
  have hlow : Below wc.heap.size wc (Y.setCell ⟨mb, 39, none⟩ (.slice (some ⟨w8.heap.size + 1 + 1, 0, none⟩) 1 1)) := (h.low.trans (hB.mono h.low.size)).setCell (by show wc.heap.size ≤ mb; omega) _
  have hmem : MemB (Y.setCell ⟨mb, 39, none⟩ (.slice (some ⟨w8.heap.size + 1 + 1, 0, none⟩) 1 1)) mb ((M.set 15 jng).set 39 (.slice (some ⟨w8.heap.size + 1 + 1, 0, none⟩) 1 1)) := (h.mem.keep (hB.block mb (by omega))).set 39 _
  have hz2 : (Y.setCell ⟨mb, 39, none⟩ (.slice (some ⟨w8.heap.size + 1 + 1, 0, none⟩) 1 1)).heap.size = w8.heap.size + 3 := by simp [hz]
  have b0' := (hn w8.heap.size (by omega)).trans b0
  have b1' := (hn (w8.heap.size + 1) (by omega)).trans b1
  have b2' := (hn (w8.heap.size + 2) (by omega)).trans b2
  generalize Y.setCell ⟨mb, 39, none⟩ (.slice (some ⟨w8.heap.size + 1 + 1, 0, none⟩) 1 1) = X at *
  obtain ⟨es, ck, l, e1, e2⟩ := h.hld
  have r : ∀ (b : Nat) (cs : List Value), b < w8.heap.size → b ≠ mb → w8.rangeAt b 0 cs → X.rangeAt b 0 cs := fun b cs h1 h2 h3 j v hj => (World.cell?_of_block (a := ⟨b, 0 + j, none⟩) (hk b h1 h2)).trans (h3 j v hj)
  have r8 : ∀ (b : Nat) (cs : List Value), b ≠ ls → b ≠ mb → wG.rangeAt b 0 cs → w8.rangeAt b 0 cs := fun b cs h1 h2 h3 j v hj => (World.cell?_of_block (a := ⟨b, 0 + j, none⟩) (h.oth b h1 h2)).trans (h3 j v hj)
  refine ⟨hlow, hmem, r hib _ (by omega) (by omega) h.rd, ⟨es, ck, l, (hk hb (by omega) (by omega)).trans e1, e2⟩, r ob _ (by omega) (by omega) (r8 ob _ (by omega) (by omega) ho), r rg _ (by omega) (by omega) (r8 rg _ (by omega) (by omega) hr), ?_, ?_, ?_, by omega⟩
  · rw [List.getElem?_set_ne (by omega), List.getElem?_set_ne (by omega)]; exact h8
  · rw [List.getElem?_set_ne (by omega), List.getElem?_set_ne (by omega)]; exact h42
  · refine aft1 (ls := ls) (kb := w8.heap.size + 1 + 1) (ab := w8.heap.size + 1) (rb := w8.heap.size) (id := id) (q := q) hmem ?_ ?_ ?_ ((hk ls (by omega) (by omega)).trans h.sq) (by omega) (List.getElem?_set_self (by simp [hl])) (by omega) (by omega) (by omega) ?_ ?_ ?_ ?_ ?_ ?_
    · rw [List.getElem?_set_ne (by omega), List.getElem?_set_self (by omega)]; rfl
    · rw [List.getElem?_set_ne (by omega), List.getElem?_set_ne (by omega)]; exact h0
    · rw [List.getElem?_set_ne (by omega), List.getElem?_set_ne (by omega)]; exact h58
    · rw [cell_of_row X _ 0 _ _ _ b2']; rfl
    · rw [cell_of_row X _ 0 _ _ _ b1']; rfl
    · rw [cell_of_row X _ 1 _ _ _ b1']; rfl
    · rw [cell_of_row X _ 0 _ _ _ b0']; rfl
    · rw [cell_of_row X _ 1 _ _ _ b0']; rfl
    · rw [cell_of_row X _ 2 _ _ _ b0']; rfl
end Go.Proofs.Ybulkdvuo
