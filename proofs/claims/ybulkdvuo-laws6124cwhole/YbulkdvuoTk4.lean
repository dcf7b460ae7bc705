import Derived.Test.YbulkdvuoT61
namespace Go.Proofs.Ybulkdvuo
open Go.RowKit
set_option linter.unusedSimpArgs false
/-- the two rows of one ACK, in the filling -/
structure Lr (wM wr : World) (B1 B2 n : Nat) (d1 d2 : List Tri) : Prop where
  low : Below B1 wM wr
  t1 : wr.there B1 0 (n * 3)
  t2 : wr.there B2 0 (n * 3)
  r1 : wr.rangeAt B1 0 (tcs d1)
  r2 : wr.rangeAt B2 0 (tcs d2)
  lt : B1 < B2 ∧ B2 < wr.heap.size
section
variable {wM wr V : World} {B1 B2 n : Nat} {d1 d2 : List Tri}
theorem Lr.below (h : Lr wM wr B1 B2 n d1 d2) (hb : Below wr.heap.size wr V) : Lr wM V B1 B2 n d1 d2 := by
  obtain ⟨l1, l2⟩ := h.lt
  exact ⟨h.low.trans (hb.mono (by omega)), there_below hb (by omega) h.t1, there_below hb (by omega) h.t2, range_mono hb h.r1, range_mono hb h.r2, l1, Nat.lt_of_lt_of_le l2 hb.size⟩
theorem tcs_snoc {w : World} {b n : Nat} {d : List Tri} (h : w.rangeAt b 0 (tcs d)) (ht : w.there b 0 (n * 3)) (hi : d.length < n) (t : Tri) : (w.setCells b (d.length * 3) (tc t)).rangeAt b 0 (tcs (d ++ [t])) := by
  rw [tcs_append]
  refine rangeAt_join (World.rangeAt_setCells_apart h _ _ _ (by rw [tcs_length]; omega)) ?_
  rw [tcs_length, Nat.zero_add]
  have : tcs [t] = tc t := by simp [tcs]
  rw [this]
  exact World.rangeAt_setCells_same _ _ _ _ (there_sub ht (by show d.length * 3 + 3 ≤ _; omega))
theorem Lr.put1 (h : Lr wM wr B1 B2 n d1 d2) (hi : d1.length < n) (t : Tri) : Lr wM (wr.setCells B1 (d1.length * 3) (tc t)) B1 B2 n (d1 ++ [t]) d2 := by
  obtain ⟨l1, l2⟩ := h.lt
  exact ⟨below_setCells h.low (Nat.le_refl _) _ _, World.there_setCells h.t1 _ _ _, World.there_setCells h.t2 _ _ _, tcs_snoc h.r1 h.t1 hi t, World.rangeAt_setCells_apart h.r2 _ _ _ (Or.inl (by omega)), l1, by rw [size_setCells]; exact l2⟩
theorem Lr.put2 (h : Lr wM wr B1 B2 n d1 d2) (hi : d2.length < n) (t : Tri) : Lr wM (wr.setCells B2 (d2.length * 3) (tc t)) B1 B2 n d1 (d2 ++ [t]) := by
  obtain ⟨l1, l2⟩ := h.lt
  exact ⟨below_setCells h.low (by omega) _ _, World.there_setCells h.t1 _ _ _, World.there_setCells h.t2 _ _ _, World.rangeAt_setCells_apart h.r1 _ _ _ (Or.inl (by omega)), tcs_snoc h.r2 h.t2 hi t, l1, by rw [size_setCells]; exact l2⟩
end
theorem take_at {α : Type} {l : List α} {k j : Nat} {x y : α} (hx : l[k]? = some x) (h : (l.take (k + 1))[j]? = some y) : (j < k ∧ (l.take k)[j]? = some y) ∨ (j = k ∧ y = x) := by
  rw [List.getElem?_take] at h
  by_cases hj : j < k + 1
  · rw [if_pos hj] at h
    by_cases hk : j = k
    · subst hk; rw [hx] at h; injection h with h; exact Or.inr ⟨rfl, h.symm⟩
    · exact Or.inl ⟨by omega, by rw [List.getElem?_take, if_pos (by omega)]; exact h⟩
  · rw [if_neg hj] at h; cases h
/-- the cells of an ACK as the law makes it -/
def ackCells (J : Int) (gb n : Nat) (nl : Nat) : Array Value := #[.int .i64 J, .slice (some ⟨gb, 0, none⟩) n n, .int .i64 0, .int .i64 0, .slice none 0 0, .int .i64 0, .int .i64 0, .slice none 0 0, .slice none 0 0, .int .i64 0, .int .i64 0, .int .i64 0, .int .i64 0, .int .i64 0, .int .i64 0, .int .i64 nl]
section
variable {wL : World} {S0 pt rf inb enb n k B1 B2 : Nat} {AB GB RB : Nat → Nat} {lk : List In1} {x : In1}
/-- the world behind one round of the law's making of ACKs -/
def stepW (wL : World) (pt rf inb enb k B1 B2 : Nat) (x : In1) : World :=
  ((((wL.setCell ⟨rf, k, none⟩ (.slice (some ⟨B1, 0, none⟩) x.refs.length x.refs.length)).setCell ⟨inb, k, none⟩ (.int .i64 (ackOf x).nl)).setCell ⟨enb, k, none⟩ (.int .i64 (ackOf x).nl)).alloc (.cells (ackCells x.J B2 x.refs.length (ackOf x).nl) 101)).setCell ⟨pt, k, none⟩ (.pointer (some ⟨wL.heap.size, 0, none⟩))
theorem Hp0.step (h : Hp0 wL S0 pt rf inb enb n AB GB RB (lk.take k)) (hx : lk[k]? = some x) (hkn : k < n) (r1 : wL.rangeAt B1 0 (tcs (x.refs.map m4))) (r2 : wL.rangeAt B2 0 (tcs (x.refs.map m4))) (p1 : enb < B1 ∧ B1 < wL.heap.size) (p2 : enb < B2 ∧ B2 < wL.heap.size) (hd : ∀ j, j < k → AB j ≠ B1 ∧ AB j ≠ B2) :
    Hp0 (stepW wL pt rf inb enb k B1 B2 x) S0 pt rf inb enb n (fun j => if j = k then wL.heap.size else AB j) (fun j => if j = k then B2 else GB j) (fun j => if j = k then B1 else RB j) (lk.take (k + 1)) ∧ Below S0 wL (stepW wL pt rf inb enb k B1 B2 x) ∧ (stepW wL pt rf inb enb k B1 B2 x).heap.size = wL.heap.size + 1 := by
  obtain ⟨q1, q2, q3, q4, q5⟩ := h.pq
  have hkl : k < lk.length := lt_of_at hx
  have hlk : (lk.take k).length = k := by rw [List.length_take]; omega
  have hlk1 : (lk.take (k + 1)).length = k + 1 := by rw [List.length_take]; omega
  obtain ⟨u1, hu1⟩ := Option.isSome_iff_exists.1 (h.tr k hkn).1
  obtain ⟨u2, hu2⟩ := Option.isSome_iff_exists.1 (h.ti k hkn).1
  obtain ⟨u3, hu3⟩ := Option.isSome_iff_exists.1 (h.te k hkn).1
  obtain ⟨u4, hu4⟩ := Option.isSome_iff_exists.1 (h.tp k hkn).1
  rw [Nat.zero_add] at hu1 hu2 hu3 hu4
  unfold stepW
  generalize hv1 : Value.slice (some ⟨B1, 0, none⟩) x.refs.length x.refs.length = v1
  generalize hv2 : Value.int .i64 ((ackOf x).nl : Nat) = v2
  have so : ∀ {W : World} {a b : Addr} {v : Value}, b ≠ a → (W.setCell a v).cell? b = W.cell? b := fun hne => by first | exact World.cell?_setCell_other _ _ _ _ hne | exact World.cell?_setCell_other _ _ _ _ hne.symm
  have ab : ∀ {b b' o o' : Nat}, b ≠ b' → (⟨b, o, none⟩ : Addr) ≠ ⟨b', o', none⟩ := fun hne e => by injection e with e1; exact hne e1
  have ao : ∀ {b b' o o' : Nat}, o ≠ o' → (⟨b, o, none⟩ : Addr) ≠ ⟨b', o', none⟩ := fun hne e => by injection e with _ e2; exact hne e2
  generalize hY3 : ((wL.setCell ⟨rf, k, none⟩ v1).setCell ⟨inb, k, none⟩ v2).setCell ⟨enb, k, none⟩ v2 = Y3
  have hz3 : Y3.heap.size = wL.heap.size := by rw [← hY3]; simp
  have g3 : ∀ {a : Addr} {u : Value}, a ≠ ⟨rf, k, none⟩ → a ≠ ⟨inb, k, none⟩ → a ≠ ⟨enb, k, none⟩ → wL.cell? a = some u → Y3.cell? a = some u := fun h1 h2 h3 h4 => by rw [← hY3, so h3, so h2, so h1]; exact h4
  have c1 : Y3.cell? ⟨rf, k, none⟩ = some v1 := by rw [← hY3, so (ab (by omega)), so (ab (by omega))]; exact World.cell?_setCell_same _ _ _ hu1
  have c2 : Y3.cell? ⟨inb, k, none⟩ = some v2 := by rw [← hY3, so (ab (by omega))]; exact World.cell?_setCell_same _ _ _ (by rw [so (ab (by omega))]; exact hu2)
  have c3 : Y3.cell? ⟨enb, k, none⟩ = some v2 := by rw [← hY3]; exact World.cell?_setCell_same _ _ _ (by rw [so (ab (by omega)), so (ab (by omega))]; exact hu3)
  have c4 : Y3.cell? ⟨pt, k, none⟩ = some u4 := g3 (ab (by omega)) (ab (by omega)) (ab (by omega)) hu4
  have t3 : ∀ {b m : Nat}, wL.there b 0 m → Y3.there b 0 m := fun ht => by
    rw [← hY3]
    exact World.there_setCells (World.there_setCells (World.there_setCells ht rf k [v1]) inb k [v2]) enb k [v2]
  have z3 : ∀ a : Addr, Y3.frozen? a = wL.frozen? a := fun a => by rw [← hY3]; simp
  have b3 : Below S0 wL Y3 := by
    rw [← hY3]
    exact (((Below.refl _ _).setCell (by show S0 ≤ rf; omega) _).setCell (by show S0 ≤ inb; omega) _).setCell (by show S0 ≤ enb; omega) _
  clear hY3
  generalize hC : ackCells x.J B2 x.refs.length (ackOf x).nl = AC
  have hba : Below Y3.heap.size Y3 (Y3.alloc (.cells AC 101)) := (Below.refl _ _).alloc (Nat.le_refl _) _
  have hn4 : (Y3.alloc (.cells AC 101)).heap[wL.heap.size]? = some (.cells AC 101) := by rw [← hz3]; exact heap_alloc_new Y3 _
  have ht4 : (Y3.alloc (.cells AC 101)).there wL.heap.size 0 16 := by rw [← hz3]; exact there_new (by rw [← hC]; exact Nat.le_refl _)
  have hz4 : (Y3.alloc (.cells AC 101)).heap.size = wL.heap.size + 1 := by simp [hz3]
  generalize Y3.alloc (.cells AC 101) = Y4 at *
  generalize hvp : Value.pointer (some ⟨wL.heap.size, 0, none⟩) = vp
  generalize hX : Y4.setCell ⟨pt, k, none⟩ vp = X
  have hzX : X.heap.size = wL.heap.size + 1 := by rw [← hX]; simp [hz4]
  have gX : ∀ {a : Addr} {u : Value}, a ≠ ⟨pt, k, none⟩ → Y3.cell? a = some u → X.cell? a = some u := fun h1 h2 => by rw [← hX, so h1]; exact cell_mono hba h2
  have g : ∀ {a : Addr} {u : Value}, a ≠ ⟨rf, k, none⟩ → a ≠ ⟨inb, k, none⟩ → a ≠ ⟨enb, k, none⟩ → a ≠ ⟨pt, k, none⟩ → wL.cell? a = some u → X.cell? a = some u := fun h1 h2 h3 h4 h5 => gX h4 (g3 h1 h2 h3 h5)
  have gh : ∀ {b o : Nat} {u : Value}, enb < b → wL.cell? ⟨b, o, none⟩ = some u → X.cell? ⟨b, o, none⟩ = some u := fun h1 h2 => g (ab (by omega)) (ab (by omega)) (ab (by omega)) (ab (by omega)) h2
  have gr : ∀ {b : Nat} {cs : List Value}, enb < b → wL.rangeAt b 0 cs → X.rangeAt b 0 cs := fun h1 h2 j v hj => gh h1 (h2 j v hj)
  have tX : ∀ {b m : Nat}, b < wL.heap.size → wL.there b 0 m → X.there b 0 m := fun h1 h2 => by
    rw [← hX]
    exact World.there_setCells (there_below hba (by omega) (t3 h2)) pt k [vp]
  have zX : ∀ a : Addr, a.block < wL.heap.size → X.frozen? a = wL.frozen? a := fun a ha => by
    rw [← hX, World.frozen?_setCell, hba.frozen (p := a) (by omega), z3]
  have aX : ∀ (o : Nat) (v : Value), AC[o]? = some v → X.cell? ⟨wL.heap.size, o, none⟩ = some v := fun o v hv => by
    rw [← hX, so (ab (by omega)), cell_of_row _ _ o _ _ _ hn4]; exact hv
  have pX : X.cell? ⟨pt, k, none⟩ = some vp := by rw [← hX]; exact World.cell?_setCell_same _ _ _ (cell_mono hba c4)
  have fX : X.frozen? ⟨wL.heap.size, 15, none⟩ = false := by
    have := (ht4 15 (by omega)).2
    rw [← hX]
    simpa using this
  have bX : Below S0 wL X := by
    rw [← hX]
    exact (b3.trans (hba.mono (by omega))).setCell (by show S0 ≤ pt; omega) _
  clear hX
  refine ⟨⟨tX (by omega) h.tp, tX (by omega) h.tr, tX (by omega) h.ti, tX (by omega) h.te, fun j hj => ?_, fun j y hj => ?_, fun j y hj => ?_, fun j y hj => ?_, fun j y hj => ?_, fun j y hj => ?_, fun j y hj => ?_, fun j hj => ?_, fun j y hj => ?_, fun j y hj => ?_, ⟨q1, q2, q3, q4, by omega⟩, fun j hj => ?_, fun j hj => ?_, fun j hj => ?_, fun i j hi hj => ?_, fun i j hi hj => ?_, fun i j hi hj hne => ?_⟩, bX, hzX⟩
  · by_cases e : j = k
    · subst e; simp only [if_true]; rw [pX, hvp]
    · simp only [if_neg e]
      exact g (ab (by omega)) (ab (by omega)) (ab (by omega)) (ao e) (h.ptr j (by omega))
  · rcases take_at hx hj with ⟨h1, h2⟩ | ⟨rfl, rfl⟩
    · simp only [if_neg (show j ≠ k by omega)]
      exact g (ao (by omega)) (ab (by omega)) (ab (by omega)) (ab (by omega)) (h.rfc j y h2)
    · simp only [if_true]; rw [hv1]; exact gX (ab (by omega)) c1
  · rcases take_at hx hj with ⟨h1, h2⟩ | ⟨rfl, rfl⟩
    · exact g (ab (by omega)) (ao (by omega)) (ab (by omega)) (ab (by omega)) (h.inc j y h2)
    · rw [hv2]; exact gX (ab (by omega)) c2
  · rcases take_at hx hj with ⟨h1, h2⟩ | ⟨rfl, rfl⟩
    · exact g (ab (by omega)) (ab (by omega)) (ao (by omega)) (ab (by omega)) (h.enc j y h2)
    · rw [hv2]; exact gX (ab (by omega)) c3
  · rcases take_at hx hj with ⟨h1, h2⟩ | ⟨rfl, rfl⟩
    · simp only [if_neg (show j ≠ k by omega)]
      exact gh (h.pa j (by omega)).1 (h.a0 j y h2)
    · simp only [if_true]; exact aX 0 _ (by rw [← hC]; rfl)
  · rcases take_at hx hj with ⟨h1, h2⟩ | ⟨rfl, rfl⟩
    · simp only [if_neg (show j ≠ k by omega)]
      exact gh (h.pa j (by omega)).1 (h.a1 j y h2)
    · simp only [if_true]; exact aX 1 _ (by rw [← hC]; rfl)
  · rcases take_at hx hj with ⟨h1, h2⟩ | ⟨rfl, rfl⟩
    · simp only [if_neg (show j ≠ k by omega)]
      exact gh (h.pa j (by omega)).1 (h.a15 j y h2)
    · simp only [if_true]; exact aX 15 _ (by rw [← hC]; rfl)
  · by_cases e : j = k
    · subst e; simp only [if_true]; exact fX
    · simp only [if_neg e]
      have := h.pa j (by omega)
      rw [zX _ this.2]; exact h.fz j (by omega)
  · rcases take_at hx hj with ⟨h1, h2⟩ | ⟨rfl, rfl⟩
    · simp only [if_neg (show j ≠ k by omega)]
      exact gr (h.pr j (by omega)).1 (h.rr j y h2)
    · simp only [if_true]; exact gr p1.1 r1
  · rcases take_at hx hj with ⟨h1, h2⟩ | ⟨rfl, rfl⟩
    · simp only [if_neg (show j ≠ k by omega)]
      exact gr (h.pg j (by omega)).1 (h.gg j y h2)
    · simp only [if_true]; exact gr p2.1 r2
  · by_cases e : j = k
    · simp only [e, if_true]; omega
    · simp only [if_neg e]; have := h.pa j (by omega); omega
  · by_cases e : j = k
    · simp only [e, if_true]; omega
    · simp only [if_neg e]; have := h.pg j (by omega); omega
  · by_cases e : j = k
    · simp only [e, if_true]; omega
    · simp only [if_neg e]; have := h.pr j (by omega); omega
  · by_cases e : i = k <;> by_cases e' : j = k
    · simp only [e, e', if_true]; omega
    · simp only [e, if_true, if_neg e']; exact (fun e2 => (hd j (by omega)).2 e2.symm)
    · simp only [e', if_true, if_neg e]; have := h.pg i (by omega); omega
    · simp only [if_neg e, if_neg e']; exact h.ne i j (by omega) (by omega)
  · by_cases e : i = k <;> by_cases e' : j = k
    · simp only [e, e', if_true]; omega
    · simp only [e, if_true, if_neg e']; exact (fun e2 => (hd j (by omega)).1 e2.symm)
    · simp only [e', if_true, if_neg e]; have := h.pr i (by omega); omega
    · simp only [if_neg e, if_neg e']; exact h.nr i j (by omega) (by omega)
  · by_cases e : i = k <;> by_cases e' : j = k
    · omega
    · simp only [e, if_true, if_neg e']; have := h.pa j (by omega); omega
    · simp only [e', if_true, if_neg e]; have := h.pa i (by omega); omega
    · simp only [if_neg e, if_neg e']; exact h.inj i j (by omega) (by omega) hne
end
end Go.Proofs.Ybulkdvuo
