import Derived.Test.YbulkdvuoLp
namespace Go.Proofs.Ybulkdvuo
open Go.RowKit
set_option linter.unusedSimpArgs false

/-- append onto the head of the pointers' own row: there is room -/
theorem append_lk {W : World} {lb i cap m c : Nat} {a : Addr} {C' news : List Value} (hb : W.heap[lb]? = some (.cells C'.toArray 92 (0, 0))) (hc : C'.length = cap) (hnl : news.length = m) (hnews : ∀ j u, news[j]? = some u → W.cell? (a.add j) = some u) (h1 : ∀ u ∈ news, u.oneCell' = true) (hroom : i + m ≤ cap) (ty : TypeId) :
    (Builtin.append_ #[60, 60] ty #[.slice (some ⟨lb, 0, none⟩) i cap, .slice (some a) m c]).run Yba.prog W = .ok (.slice (some ⟨lb, 0, none⟩) (i + m) cap) (W.setRow lb (C'.take i ++ news ++ C'.drop (i + m)).toArray) := by
  obtain ⟨ti, hti, hz0, hz1, hz2⟩ := info92
  have := run_append_room (P := Yba.prog) W 60 ty 92 ti Yba.underlying60 hti lb i cap C'.toArray hb a m c news (by rw [hz1, hnl, Nat.mul_one]) hnews h1 hroom (by rw [hz1, hnl]; simp [hc]; omega)
  rw [hz1] at this
  simpa [hnl] using this
theorem setRow_facts {W : World} {lb : Nat} {cur D : List Value} (hb : W.heap[lb]? = some (.cells cur.toArray 92 (0, 0))) : ((W.setRow lb D.toArray).os = W.os ∧ (W.setRow lb D.toArray).tape = W.tape ∧ (W.setRow lb D.toArray).output = W.output ∧ W.heap.size = (W.setRow lb D.toArray).heap.size) ∧ (∀ b, b ≠ lb → (W.setRow lb D.toArray).heap[b]? = W.heap[b]?) ∧ (W.setRow lb D.toArray).heap[lb]? = some (.cells D.toArray 92 (0, 0)) :=
  ⟨⟨rfl, rfl, rfl, by simp⟩, fun b hne => setRow_other W lb b _ hne, setRow_heap W lb cur.toArray _ 92 _ hb⟩
section
variable {w wr w1 : World} {lb fb n cap : Nat} {AB NN : Nat → Nat} {K : List Nat} {GV : List (Gap1 × Value)} {fg fc k : Nat} {C C' : List Value}
theorem set_form {C' : List Value} {i : Nat} {p : Value} (hi : i < C'.length) : C'.take i ++ [p] ++ C'.drop (i + 1) = C'.set i p := by
  rw [List.set_eq_take_append_cons_drop, if_pos hi]; simp
/-- the rest of the pointers goes to the kept ones -/
theorem Lp.rest (h : Lp w wr lb fb n cap AB NN K GV fg fc k C C') (hw : w1.os = wr.os ∧ w1.tape = wr.tape ∧ w1.output = wr.output ∧ wr.heap.size = w1.heap.size) (ho : ∀ b, b ≠ lb → w1.heap[b]? = wr.heap[b]?)
    (C'' : List Value) (hb : w1.heap[lb]? = some (.cells C''.toArray 92 (0, 0))) (hc : C'' = C'.take K.length ++ (C'.drop k).take (n - k) ++ C'.drop (K.length + (n - k))) (hK : K.length ≤ k) (hk : k ≤ n) (hn : n ≤ cap) (hlb : lb < w.heap.size) (hlf : lb < fb) (ha : ∀ j, j < n → AB j ≠ lb) (hp : ∀ j, j < n → C[j]? = some (.pointer (some ⟨AB j, 0, none⟩))) :
    Lp w w1 lb fb n cap AB NN (K ++ List.range' k (n - k)) GV fg fc n C C'' := by
  have hfg : fg ≠ lb := by rcases h.fp with e | e <;> omega
  have hcl := h.cl
  have l1 : (C'.take K.length).length = K.length := by rw [List.length_take]; omega
  have l2 : ((C'.drop k).take (n - k)).length = n - k := by rw [List.length_take, List.length_drop]; omega
  refine ⟨hw.1.trans h.os, hw.2.1.trans h.tape, hw.2.2.1.trans h.output, by rw [← hw.2.2.2]; exact h.size, fun b h1 h2 h3 h4 => (ho b h2).trans (h.keep b h1 h2 h3 h4), fun j hj => (ho _ (ha j hj)).trans (h.ack j hj), hb, ?_, fun j h1 h2 => by omega, fun i j hij => ?_,
    own_keep h.fo (fun q hq => ho q (by simp [Value.ownBlock] at hq; omega)), h.fp, fun p hp => own_keep (h.gv p hp) (fun q hq => ho q (by have := ((h.gv p hp).lt q hq).1; omega)), h.ap⟩
  · rw [hc, List.length_append, List.length_append, l1, l2, List.length_drop]; omega
  · rw [hc, List.append_assoc]
    by_cases hi : i < K.length
    · rw [List.getElem?_append_left hi] at hij
      rw [List.getElem?_append_left (by omega), List.getElem?_take, if_pos hi]; exact h.ckk i j hij
    · rw [List.getElem?_append_right (by omega)] at hij
      rw [List.getElem?_append_right (by omega), l1]
      have hlt : i - K.length < n - k := by have := (List.getElem?_eq_some_iff.1 hij).1; simpa using this
      rw [List.getElem?_append_left (by omega), List.getElem?_take, if_pos hlt, List.getElem?_drop, h.cr _ (by omega) (by omega)]
      rw [List.getElem?_range' (by omega)] at hij
      have hj : j = k + (i - K.length) := by have := Option.some.inj hij; omega
      rw [hj]; exact hp _ (by omega)
/-- one pointer appended: the new world, by what is known of it -/
theorem Lp.push1 (h : Lp w wr lb fb n cap AB NN K GV fg fc k C C') (hK : K.length ≤ k) (hKc : K.length < cap) (hlb : lb < w.heap.size) (hlf : lb < fb) (ha : ∀ j, j < n → AB j < lb) :
    ∃ (C2 : List Value) (w2 : World), (∀ ty cc, (Builtin.append_ #[60, 60] ty #[.slice (some ⟨lb, 0, none⟩) K.length cap, .slice (some ⟨wr.heap.size, 0, none⟩) 1 cc]).run Yba.prog (wr.alloc (.cells #[.pointer (some ⟨AB k, 0, none⟩)] 92)) = .ok (.slice (some ⟨lb, 0, none⟩) (K.length + 1) cap) w2) ∧
      Lp w w2 lb fb n cap AB NN (K ++ [k]) GV fg fc (k + 1) C C2 ∧ Below lb wr w2 ∧ (∀ b, b < wr.heap.size → b ≠ lb → w2.heap[b]? = wr.heap[b]?) ∧ wr.heap.size ≤ w2.heap.size := by
  have hs := h.size
  have hB5 : Below wr.heap.size wr (wr.alloc (.cells #[.pointer (some ⟨AB k, 0, none⟩)] 92)) := (Below.refl _ _).alloc (Nat.le_refl _) _
  have hnw : (wr.alloc (.cells #[.pointer (some ⟨AB k, 0, none⟩)] 92)).cell? ⟨wr.heap.size, 0, none⟩ = some (.pointer (some ⟨AB k, 0, none⟩)) := by
    rw [cell_of_row _ _ 0 _ _ _ (heap_alloc_new wr _)]; rfl
  generalize wr.alloc (.cells #[.pointer (some ⟨AB k, 0, none⟩)] 92) = W5 at hB5 hnw ⊢
  generalize hp : Value.pointer (some ⟨AB k, 0, none⟩) = p at hnw
  have P5 := h.below hB5 hlb (fun j hj => by have := ha j hj; omega)
  obtain ⟨D, hD⟩ : ∃ D : List Value, D = C'.take K.length ++ [p] ++ C'.drop (K.length + 1) := ⟨_, rfl⟩
  have hsr := setRow_facts (D := D) P5.blk
  have hsz : wr.heap.size ≤ (W5.setRow lb D.toArray).heap.size := by
    rw [← hsr.1.2.2.2]; exact hB5.size
  have hap : ∀ ty cc, (Builtin.append_ #[60, 60] ty #[.slice (some ⟨lb, 0, none⟩) K.length cap, .slice (some ⟨wr.heap.size, 0, none⟩) 1 cc]).run Yba.prog W5 = .ok (.slice (some ⟨lb, 0, none⟩) (K.length + 1) cap) (W5.setRow lb D.toArray) := fun ty cc => by
    rw [hD]
    refine append_lk (news := [p]) (i := K.length) (m := 1) P5.blk P5.cl rfl (fun j u hu => ?_) (fun u hu => ?_) hKc ty
    · match j, hu with
      | 0, hu => simp at hu; subst hu; rw [Addr.add_mid]; exact hnw
    · simp at hu; subst hu; rw [← hp]; rfl
  have hDs : D = C'.set K.length (.pointer (some ⟨AB k, 0, none⟩)) := by rw [hD, hp]; exact set_form (by rw [P5.cl]; exact hKc)
  have hpp := P5.push hsr.1 hsr.2.1 D hsr.2.2 hDs hK hKc hlb hlf (fun j hj => by have := ha j hj; omega)
  refine ⟨D, W5.setRow lb D.toArray, hap, hpp, ?_, fun b hb hne => (hsr.2.1 b hne).trans (hB5.block b hb), hsz⟩
  exact ⟨hB5.os, hB5.tape, hB5.output, hsz, fun b hb => (hsr.2.1 b (by omega)).trans (hB5.block b (by omega))⟩
/-- what 'missing' reads, at place k -/
theorem Lp.ak {mb hb S0 : Nat} {GB : Nat → Nat} {es : Array MapEntry} {ck : Nat} {A : List Ack1} {a : Ack1} (h : Lp w wr lb fb A.length cap AB NN K GV fg fc k C C') (hL : Lk w mb hb lb fb S0 cap AB GB es ck A C) (ha : A[k]? = some a) (hN : NN k = a.nl) : Ak wr mb hb (AB k) (GB k) es ck a.refs a.nl := by
  have hlow := h.low hL.ps hL.lf hL.pf (fun j hj => (hL.pa j hj).1)
  have hkn : k < A.length := (List.getElem?_eq_some_iff.1 ha).1
  have hs := h.size
  have h1 := hL.pa k hkn
  have h2 := hL.pg k hkn
  have hlf := hL.lf
  have hpf := hL.pf
  have hps := hL.ps
  have hak := h.ack k hkn
  have hgk : wr.heap[GB k]? = w.heap[GB k]? := h.keep _ (by omega) (by omega) (by omega) (fun j hj => hL.ne k j hkn hj)
  have cg : ∀ o, wr.cell? ⟨GB k, o, none⟩ = w.cell? ⟨GB k, o, none⟩ := fun o => World.cell?_of_block (a := ⟨GB k, o, none⟩) hgk
  refine ⟨(hlow.cell (p := ⟨mb, 33, none⟩) hL.pm).trans hL.c33, (hlow.cell (p := ⟨mb, 37, none⟩) hL.pm).trans hL.c37, (hlow.block hb hL.ph).trans hL.hh, ?_, ?_, ?_, fun i hi => ?_, by have := hL.pm; omega, by have := hL.ph; omega, by omega, by omega⟩
  · rw [World.cell?_of_block (a := ⟨AB k, 1, none⟩) hak, World.cell?_setCell_other (h := by intro e; injection e with _ e2; omega)]; exact hL.a1 k a ha
  · rw [World.cell?_of_block (a := ⟨AB k, 15, none⟩) hak, World.cell?_setCell_same _ _ _ (hL.a15 k a ha), hN]
  · rw [World.frozen?_of_block (a := ⟨AB k, 15, none⟩) hak]; simpa using hL.fz k hkn
  · obtain ⟨e0, e1, e2⟩ := hL.rd k a ha i hi
    exact ⟨(cg _).trans e0, (cg _).trans e1, (cg _).trans e2⟩
end
end Go.Proofs.Ybulkdvuo
