import Derived.Test.YbulkdvuoGaps
namespace Go.Proofs.Ybulkdvuo
open Go.RowKit
set_option linter.unusedSimpArgs false

/-- what messageGaps finds: the slice of pointers, the ACKs, the map of what is held; and where all that lies -/
structure Lk (w : World) (mb hb lb fb S0 cap : Nat) (AB GB : Nat → Nat) (es : Array MapEntry) (ck : Nat) (A : List Ack1) (C : List Value) : Prop where
  m42 : w.cell? ⟨mb, 42, none⟩ = some (.slice (some ⟨lb, 0, none⟩) A.length cap)
  f42 : w.frozen? ⟨mb, 42, none⟩ = false
  blk : w.heap[lb]? = some (.cells C.toArray 92 (0, 0))
  cl : C.length = cap
  nc : A.length ≤ cap
  cm : cap ≤ maxLen
  ptr : ∀ k, k < A.length → C[k]? = some (.pointer (some ⟨AB k, 0, none⟩))
  a0 : ∀ (k : Nat) (a : Ack1), A[k]? = some a → w.cell? ⟨AB k, 0, none⟩ = some (.int .i64 a.J)
  a1 : ∀ (k : Nat) (a : Ack1), A[k]? = some a → w.cell? ⟨AB k, 1, none⟩ = some (.slice (some ⟨GB k, 0, none⟩) a.refs.length a.refs.length)
  a15 : ∀ (k : Nat) (a : Ack1), A[k]? = some a → w.cell? ⟨AB k, 15, none⟩ = some (.int .i64 a.nl)
  fz : ∀ k, k < A.length → w.frozen? ⟨AB k, 15, none⟩ = false
  rd : ∀ (k : Nat) (a : Ack1), A[k]? = some a → IdsAt w (GB k) 0 a.refs
  c33 : w.cell? ⟨mb, 33, none⟩ = some (.map (some hb))
  c37 : w.cell? ⟨mb, 37, none⟩ = some (.map none)
  hh : w.heap[hb]? = some (.map es ck)
  pm : mb < S0
  ph : hb < S0
  pa : ∀ k, k < A.length → S0 ≤ AB k ∧ AB k < lb
  pg : ∀ k, k < A.length → S0 ≤ GB k ∧ GB k < lb
  ne : ∀ j k, j < A.length → k < A.length → GB j ≠ AB k
  inj : ∀ j k, j < A.length → k < A.length → j ≠ k → AB j ≠ AB k
  ps : S0 ≤ lb
  lf : lb < fb
  pf : fb < w.heap.size
/-- the world within the loop: which blocks are as they were, what the others hold -/
structure Lp (w wr : World) (lb fb n cap : Nat) (AB : Nat → Nat) (NN : Nat → Nat) (K : List Nat) (GV : List (Gap1 × Value)) (fg fc : Nat) (k : Nat) (C C' : List Value) : Prop where
  os : wr.os = w.os
  tape : wr.tape = w.tape
  output : wr.output = w.output
  size : w.heap.size ≤ wr.heap.size
  keep : ∀ b, b < w.heap.size → b ≠ lb → b ≠ fb → (∀ j, j < n → b ≠ AB j) → wr.heap[b]? = w.heap[b]?
  ack : ∀ j, j < n → wr.heap[AB j]? = (w.setCell ⟨AB j, 15, none⟩ (.int .i64 (NN j))).heap[AB j]?
  blk : wr.heap[lb]? = some (.cells C'.toArray 92 (0, 0))
  cl : C'.length = cap
  cr : ∀ j, k ≤ j → j < n → C'[j]? = C[j]?
  ckk : ∀ (i j : Nat), K[i]? = some j → C'[i]? = some (.pointer (some ⟨AB j, 0, none⟩))
  fo : wr.ownsRow fb 107 7 (.slice (some ⟨fg, 0, none⟩) (1 + GV.length) fc) (1 + GV.length) (preCells ++ gcs GV)
  fp : fg = fb ∨ w.heap.size ≤ fg
  gv : ∀ p ∈ GV, wr.ownsRow w.heap.size 86 3 p.2 p.1.ids.length (tcs p.1.ids)
  ap : ∀ p ∈ GV, p.2.ownBlock ≠ some fg
section
variable {w wr w1 : World} {lb fb n cap : Nat} {AB NN : Nat → Nat} {K : List Nat} {GV : List (Gap1 × Value)} {fg fc k : Nat} {C C' : List Value}
/-- a step that leaves all that was there -/
theorem Lp.below (h : Lp w wr lb fb n cap AB NN K GV fg fc k C C') (hb : Below wr.heap.size wr w1) (hlb : lb < w.heap.size) (ha : ∀ j, j < n → AB j < w.heap.size) : Lp w w1 lb fb n cap AB NN K GV fg fc k C C' :=
  have hs := h.size
  ⟨hb.os.trans h.os, hb.tape.trans h.tape, hb.output.trans h.output, Nat.le_trans h.size hb.size, fun b h1 h2 h3 h4 => (hb.block b (by omega)).trans (h.keep b h1 h2 h3 h4), fun j hj => (hb.block _ (by have := ha j hj; omega)).trans (h.ack j hj),
    (hb.block lb (by omega)).trans h.blk, h.cl, h.cr, h.ckk, own_below h.fo hb, h.fp, fun p hp => own_below (h.gv p hp) hb, h.ap⟩
theorem Lp.low {S0 : Nat} (h : Lp w wr lb fb n cap AB NN K GV fg fc k C C') (h0 : S0 ≤ lb) (h1 : lb < fb) (h2 : fb < w.heap.size) (ha : ∀ j, j < n → S0 ≤ AB j) : Below S0 w wr :=
  ⟨h.os, h.tape, h.output, h.size, fun b hb => h.keep b (by omega) (by omega) (by omega) (fun j hj => by have := ha j hj; omega)⟩
/-- place k is passed by -/
theorem Lp.next (h : Lp w wr lb fb n cap AB NN K GV fg fc k C C') : Lp w wr lb fb n cap AB NN K GV fg fc (k + 1) C C' :=
  { h with cr := fun j h1 h2 => h.cr j (by omega) h2 }
/-- the pointer of place k goes to the kept ones -/
theorem Lp.push (h : Lp w wr lb fb n cap AB NN K GV fg fc k C C') (hw : w1.os = wr.os ∧ w1.tape = wr.tape ∧ w1.output = wr.output ∧ wr.heap.size = w1.heap.size) (ho : ∀ b, b ≠ lb → w1.heap[b]? = wr.heap[b]?)
    (C'' : List Value) (hb : w1.heap[lb]? = some (.cells C''.toArray 92 (0, 0))) (hc : C'' = C'.set K.length (.pointer (some ⟨AB k, 0, none⟩))) (hK : K.length ≤ k) (hKc : K.length < cap) (hlb : lb < w.heap.size) (hlf : lb < fb) (ha : ∀ j, j < n → AB j ≠ lb) :
    Lp w w1 lb fb n cap AB NN (K ++ [k]) GV fg fc (k + 1) C C'' := by
  subst hc
  have hfg : fg ≠ lb := by rcases h.fp with e | e <;> omega
  refine ⟨hw.1.trans h.os, hw.2.1.trans h.tape, hw.2.2.1.trans h.output, by rw [← hw.2.2.2]; exact h.size, fun b h1 h2 h3 h4 => (ho b h2).trans (h.keep b h1 h2 h3 h4), fun j hj => (ho _ (ha j hj)).trans (h.ack j hj), hb, by rw [List.length_set]; exact h.cl, fun j h1 h2 => ?_, fun i j hij => ?_,
    own_keep h.fo (fun q hq => ho q (by simp [Value.ownBlock] at hq; omega)), h.fp, fun p hp => own_keep (h.gv p hp) (fun q hq => ho q (by have := ((h.gv p hp).lt q hq).1; omega)), h.ap⟩
  · rw [List.getElem?_set_ne (by omega)]; exact h.cr j (by omega) h2
  · by_cases hi : i = K.length
    · subst hi
      rw [List.getElem?_append_right (Nat.le_refl _), Nat.sub_self] at hij
      simp at hij
      subst hij
      rw [List.getElem?_set_self (by rw [h.cl]; exact hKc)]
    · have hil : i < K.length := by
        have := (List.getElem?_eq_some_iff.1 hij).1
        simp at this; omega
      rw [List.getElem?_append_left hil] at hij
      rw [List.getElem?_set_ne (by omega)]; exact h.ckk i j hij
/-- place k's count raised -/
theorem Lp.count (h : Lp w wr lb fb n cap AB NN K GV fg fc k C C') {m : Nat} (hk : k < n) (hb : Below wr.heap.size (wr.setCell ⟨AB k, 15, none⟩ (.int .i64 m)) w1) (hlb : lb < w.heap.size) (hlf : lb < fb) (hff : fb < w.heap.size) (ha : ∀ j, j < n → AB j < lb) (hin : ∀ j, j < n → j ≠ k → AB j ≠ AB k) :
    Lp w w1 lb fb n cap AB (fun j => if j = k then m else NN j) K GV fg fc k C C' := by
  have hs := h.size
  have hks := ha k hk
  have ho : ∀ b, b < wr.heap.size → b ≠ AB k → w1.heap[b]? = wr.heap[b]? := fun b hb1 hb2 => (hb.block b hb1).trans (Go.Deep.blk_setCell_other _ _ _ _ hb2)
  have hfg : fg ≠ AB k := by rcases h.fp with e | e <;> omega
  refine ⟨hb.os.trans h.os, hb.tape.trans h.tape, hb.output.trans h.output, Nat.le_trans h.size (by have := hb.size; simpa using this), fun b h1 h2 h3 h4 => (ho b (by omega) (h4 k hk)).trans (h.keep b h1 h2 h3 h4), fun j hj => ?_,
    (ho lb (by omega) (by omega)).trans h.blk, h.cl, h.cr, h.ckk, own_keep h.fo (fun q hq => ho q ((h.fo.lt q hq).2) (by simp [Value.ownBlock] at hq; omega)), h.fp,
    fun p hp => own_keep (h.gv p hp) (fun q hq => ho q ((h.gv p hp).lt q hq).2 (by have := ((h.gv p hp).lt q hq).1; omega)), h.ap⟩
  by_cases hjk : j = k
  · subst hjk
    simp only [if_true]
    rw [hb.block _ (by omega), setCell_block_congr (h.ack j hj), setCell_set_block]
  · simp only [if_neg hjk]
    rw [ho _ (by have := ha j hj; omega) (hin j hj hjk)]; exact h.ack j hj
/-- one gap more -/
theorem Lp.found (h : Lp w wr lb fb n cap AB NN K GV fg fc k C C') {g : Gap1} {v : Value} {fg' fc' : Nat} (hg : wr.grownBy w1 (some fg)) (ho : w1.ownsRow fb 107 7 (.slice (some ⟨fg', 0, none⟩) (1 + GV.length + 1) fc') (1 + GV.length + 1) (preCells ++ gcs GV ++ gc (g, v)))
    (hat : fg' = fg ∨ wr.heap.size ≤ fg') (hv : wr.ownsRow w.heap.size 86 3 v g.ids.length (tcs g.ids)) (hvf : v.ownBlock ≠ some fg) (hlb : lb < w.heap.size) (hlf : lb < fb) (ha : ∀ j, j < n → AB j < lb) :
    Lp w w1 lb fb n cap AB NN K (GV ++ [(g, v)]) fg' fc' k C C' := by
  have hs := h.size
  have hk : ∀ b, b < wr.heap.size → b ≠ fg → w1.heap[b]? = wr.heap[b]? := fun b hb hne => hg.block b hb (fun e => hne (by injection e))
  have hne : ∀ b, b < w.heap.size → b ≠ fb → b ≠ fg := fun b h1 h2 => by rcases h.fp with e | e <;> omega
  refine ⟨hg.os.trans h.os, hg.tape.trans h.tape, hg.output.trans h.output, Nat.le_trans h.size hg.size, fun b h1 h2 h3 h4 => (hk b (by omega) (hne b h1 h3)).trans (h.keep b h1 h2 h3 h4), fun j hj => (hk _ (by have := ha j hj; omega) (hne _ (by have := ha j hj; omega) (by have := ha j hj; omega))).trans (h.ack j hj),
    (hk lb (by omega) (hne _ hlb (by omega))).trans h.blk, h.cl, h.cr, h.ckk, ?_, ?_, fun p hp => ?_, fun p hp => ?_⟩
  · have e1 : 1 + (GV ++ [(g, v)]).length = 1 + GV.length + 1 := by simp; omega
    have e2 : preCells ++ gcs (GV ++ [(g, v)]) = preCells ++ gcs GV ++ gc (g, v) := by simp [gcs]
    rw [e1, e2]; exact ho
  · rcases hat with e | e
    · rw [e]; exact h.fp
    · exact Or.inr (by omega)
  · rcases List.mem_append.1 hp with hp | hp
    · exact own_keep (h.gv p hp) (fun q hq => hk q ((h.gv p hp).lt q hq).2 (fun e => h.ap p hp (by rw [hq, e])))
    · simp at hp; subst hp
      exact own_keep hv (fun q hq => hk q (hv.lt q hq).2 (fun e => hvf (by rw [hq, e])))
  · rcases hat with e | e
    · rw [e]
      rcases List.mem_append.1 hp with hp | hp
      · exact h.ap p hp
      · simp at hp; subst hp; exact hvf
    · intro e2
      rcases List.mem_append.1 hp with hp | hp
      · have := ((h.gv p hp).lt _ e2).2; omega
      · simp at hp; subst hp
        have := (hv.lt _ e2).2; omega
end
end Go.Proofs.Ybulkdvuo
