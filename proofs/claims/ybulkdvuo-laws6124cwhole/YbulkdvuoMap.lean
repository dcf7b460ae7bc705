import Derived.Test.YbulkdvuoBlank
import Derived.WideKeyRuns
namespace Go.Proofs.Ybulkdvuo
open Go.RowKit
set_option linter.unusedSimpArgs false

def ky (t : Tri) : Value := .agg #[.int .i64 t.1, .int .i64 t.2.1, .int .i64 t.2.2]
def vl (t : Tri) : Value := .agg #[.int .i64 t.1, .int .i64 t.2.1, .int .i64 t.2.2, .slice none 0 0, .int .i64 0]
/-- the map's entries are the IDs l -/
def Ents (es : List MapEntry) (l : List Tri) : Prop := es.map (fun e => (e.key, e.val)) = l.map (fun t => (ky t, vl t))
theorem eq86 (a b : Tri) (w : World) : (Op.equal 86 (ky a) (ky b)).run Yba.prog w = .ok (decide (a = b)) w := by
  obtain ⟨a0, a1, a2⟩ := a
  obtain ⟨b0, b1, b2⟩ := b
  unfold Op.equal ky Op.maxDepth
  by_cases h0 : a0 = b0
  · by_cases h1 : a1 = b1
    · by_cases h2 : a2 = b2
      · subst h0 h1 h2; go_simp
      · go_simp
    · go_simp
  · go_simp
theorem check_int (t : TypeId) (k : IntKind) (n : Nat) (e : Bool) (v : Value) (h : Yba.prog.underlying t = some (.int k)) (w : World) : (Instr.checkKey e (n + 1) t v).run Yba.prog w = .ok () w := by
  simp [Instr.checkKey, run_underlying h]
theorem check86 (a : Tri) (e : Bool) (w : World) : (Instr.checkKey e 10000 86 (ky a)).run Yba.prog w = .ok () w := by
  have c3 := fun (v : Value) (w : World) => check_int 3 .i64 9998 e v Yba.underlying3 w
  unfold ky
  rw [show (10000 : Nat) = 9999 + 1 from rfl, Instr.checkKey]
  simp [run_underlying Yba.underlying86, go_sem, part, check_int]
/-- the first entry with the key -/
theorem find86 (a : Tri) (w : World) : ∀ (es : List MapEntry) (l : List Tri) (i : Nat), Ents es l → (a ∈ l → ∃ j, (Instr.findAsking 86 (ky a) es i).run Yba.prog w = .ok (some (i + j, vl a)) w ∧ l[j]? = some a) ∧ (a ∉ l → (Instr.findAsking 86 (ky a) es i).run Yba.prog w = .ok none w)
  | [], l, i, h => by
    have : l = [] := by simpa [Ents] using h.symm
    subst this
    exact ⟨by simp, fun _ => rfl⟩
  | e :: es, [], i, h => by simp [Ents] at h
  | e :: es, t :: l, i, h => by
    simp only [Ents, List.map_cons, List.cons.injEq, Prod.mk.injEq] at h
    obtain ⟨⟨hk, hv⟩, ht⟩ := h
    have ih := find86 a w es l (i + 1) ht
    by_cases hat : a = t
    · subst hat
      refine ⟨fun _ => ⟨0, ?_, rfl⟩, fun hn => absurd (by simp) hn⟩
      simp [Instr.findAsking, hk, eq86, hv]
    · have hs : (Instr.findAsking 86 (ky a) (e :: es) i).run Yba.prog w = (Instr.findAsking 86 (ky a) es (i + 1)).run Yba.prog w := by
        simp [Instr.findAsking, hk, eq86, hat]
      rw [hs]
      refine ⟨fun hm => ?_, fun hn => ih.2 (fun h => hn (by simp [h]))⟩
      obtain ⟨j, hj, hl⟩ := ih.1 (by simpa [hat] using hm)
      exact ⟨j + 1, by rw [hj, show i + 1 + j = i + (j + 1) by omega], by simpa using hl⟩
theorem find53 (a : Tri) (w : World) (es : List MapEntry) (l : List Tri) (h : Ents es l) : (a ∈ l → ∃ j, (Instr.findKey 86 (ky a) es).run Yba.prog w = .ok (some (j, vl a)) w ∧ l[j]? = some a) ∧ (a ∉ l → (Instr.findKey 86 (ky a) es).run Yba.prog w = .ok none w) := by
  rw [run_findKey_eq (P := Yba.prog) w (by rw [Yba.underlying86])]
  have := find86 a w es l 0 h
  simpa using this
theorem heldAs_of (es : Array MapEntry) (ck hb : Nat) (l : List Tri) (h : Ents es.toList l) : HeldAs es ck hb l (fun t => if t ∈ l then t else (0, 0, 0)) := by
  intro x y z w' hh
  have hf := find53 (x, y, z) w' es.toList l h
  have hc := check86 (x, y, z) es.isEmpty w'
  have hg := MapKept.run_getObj_map (P := Yba.prog) hh
  unfold Instr.lookup
  by_cases hm : (x, y, z) ∈ l
  · obtain ⟨j, hj, _⟩ := hf.1 hm
    have hj' : (Instr.findKey 86 (.agg #[.int .i64 x, .int .i64 y, .int .i64 z]) es.toList).run Yba.prog w' = .ok (some (j, vl (x, y, z))) w' := hj
    have hc' : (Instr.checkKey es.isEmpty 10000 86 (.agg #[.int .i64 x, .int .i64 y, .int .i64 z])).run Yba.prog w' = .ok () w' := hc
    simp [run_underlying Yba.underlying53, hg, hc', hj', hm, vl]
  · have hj := hf.2 hm
    have hj' : (Instr.findKey 86 (.agg #[.int .i64 x, .int .i64 y, .int .i64 z]) es.toList).run Yba.prog w' = .ok none w' := hj
    have hc' : (Instr.checkKey es.isEmpty 10000 86 (.agg #[.int .i64 x, .int .i64 y, .int .i64 z])).run Yba.prog w' = .ok () w' := hc
    simp [run_underlying Yba.underlying53, hg, hc', hj', hm, vl, Yba.zeroValue91]
theorem bits_ky (a : Tri) : Instr.sameBits 10000 (ky a) (ky a) = true := by
  unfold ky
  rw [show (10000 : Nat) = 9999 + 1 from rfl]
  simp [Instr.sameBits]
/-- m.held[a] = .. -/
theorem update_held (a : Tri) (hb : Nat) (es : Array MapEntry) (ck : Nat) (l : List Tri) (w : World) (hh : w.heap[hb]? = some (.map es ck)) (h : Ents es.toList l) :
    ∃ (es' : Array MapEntry) (ck' : Nat), (Instr.mapUpdate 53 (.map (some hb)) (ky a) (vl a)).run Yba.prog w = .ok () { w with heap := w.heap.setIfInBounds hb (.map es' ck') } ∧ Ents es'.toList (if a ∈ l then l else l ++ [a]) := by
  have hg := MapKept.run_getObj_map (P := Yba.prog) hh
  have hs := fun o => MapKept.run_setObj_map (P := Yba.prog) o hh
  have hc := check86 a false w
  have hf := find53 a w es.toList l h
  by_cases hm : a ∈ l
  · obtain ⟨j, hj, hlj⟩ := hf.1 hm
    rw [if_pos hm]
    have hlen : es.toList.length = l.length := by have := congrArg List.length h; simpa using this
    have hjl : j < es.size := by have := (List.getElem?_eq_some_iff.1 hlj).1; simpa [← hlen] using this
    have hkj : ∀ (h : j < es.size), es[j].key = ky a := fun _ => by
      have := congrArg (fun z => (z[j]?).map (·.1)) h
      simpa [hlj, hjl] using this
    have hks : (Instr.keyThatStays (((es[j]?).map (·.key)).getD (ky a)) (ky a)).run Yba.prog w = .ok (ky a) w := by
      rw [show ((es[j]?).map (·.key)).getD (ky a) = ky a by simp [hjl, hkj hjl]]
      simp [Instr.keyThatStays, bits_ky]
    refine ⟨es.modify j fun e => { e with key := ky a, val := vl a }, ck, ?_, ?_⟩
    · simp [Instr.mapUpdate, run_underlying Yba.underlying53, hg, hc, hj, hks, hs]
    · unfold Ents at h ⊢
      apply List.ext_getElem?
      intro i
      have hi := congrArg (fun z => z[i]?) h
      simp only [List.getElem?_map, Array.getElem?_toList] at hi ⊢
      rw [Array.getElem?_modify]
      by_cases hij : j = i
      · subst hij
        rw [if_pos rfl, hlj]
        simp [hjl]
      · rw [if_neg hij]; exact hi
  · have hj := hf.2 hm
    rw [if_neg hm]
    refine ⟨es.push { key := ky a, val := vl a, born := ck }, ck + 1, ?_, ?_⟩
    · simp [Instr.mapUpdate, run_underlying Yba.underlying53, hg, hc, hj, hs]
    · unfold Ents at h ⊢
      simp [h]
end Go.Proofs.Ybulkdvuo
