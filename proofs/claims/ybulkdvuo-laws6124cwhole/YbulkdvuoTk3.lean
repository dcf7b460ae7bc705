import Derived.Test.YbulkdvuoT62
namespace Go.Proofs.Ybulkdvuo
open Go.RowKit
set_option linter.unusedSimpArgs false
/-- where the ACKs lie, ahead of the Member's own slice of them -/
structure Hp0 (W : World) (S0 pt rf inb enb n : Nat) (AB GB RB : Nat → Nat) (lk : List In1) : Prop where
  tp : W.there pt 0 n
  tr : W.there rf 0 n
  ti : W.there inb 0 n
  te : W.there enb 0 n
  ptr : ∀ j, j < lk.length → W.cell? ⟨pt, j, none⟩ = some (.pointer (some ⟨AB j, 0, none⟩))
  rfc : ∀ (j : Nat) (x : In1), lk[j]? = some x → W.cell? ⟨rf, j, none⟩ = some (.slice (some ⟨RB j, 0, none⟩) x.refs.length x.refs.length)
  inc : ∀ (j : Nat) (x : In1), lk[j]? = some x → W.cell? ⟨inb, j, none⟩ = some (.int .i64 (ackOf x).nl)
  enc : ∀ (j : Nat) (x : In1), lk[j]? = some x → W.cell? ⟨enb, j, none⟩ = some (.int .i64 (ackOf x).nl)
  a0 : ∀ (j : Nat) (x : In1), lk[j]? = some x → W.cell? ⟨AB j, 0, none⟩ = some (.int .i64 x.J)
  a1 : ∀ (j : Nat) (x : In1), lk[j]? = some x → W.cell? ⟨AB j, 1, none⟩ = some (.slice (some ⟨GB j, 0, none⟩) x.refs.length x.refs.length)
  a15 : ∀ (j : Nat) (x : In1), lk[j]? = some x → W.cell? ⟨AB j, 15, none⟩ = some (.int .i64 (ackOf x).nl)
  fz : ∀ j, j < lk.length → W.frozen? ⟨AB j, 15, none⟩ = false
  rr : ∀ (j : Nat) (x : In1), lk[j]? = some x → W.rangeAt (RB j) 0 (tcs (x.refs.map m4))
  gg : ∀ (j : Nat) (x : In1), lk[j]? = some x → W.rangeAt (GB j) 0 (tcs (x.refs.map m4))
  pq : S0 ≤ pt ∧ pt < rf ∧ rf < inb ∧ inb < enb ∧ enb < W.heap.size
  pa : ∀ j, j < lk.length → enb < AB j ∧ AB j < W.heap.size
  pg : ∀ j, j < lk.length → enb < GB j ∧ GB j < W.heap.size
  pr : ∀ j, j < lk.length → enb < RB j ∧ RB j < W.heap.size
  ne : ∀ j k, j < lk.length → k < lk.length → GB j ≠ AB k
  nr : ∀ j k, j < lk.length → k < lk.length → RB j ≠ AB k
  inj : ∀ j k, j < lk.length → k < lk.length → j ≠ k → AB j ≠ AB k
section
variable {W V : World} {S0 mb hb g ob hib pt rf inb enb n : Nat} {AB GB RB : Nat → Nat} {lk : List In1}
theorem Hp0.below (h : Hp0 W S0 pt rf inb enb n AB GB RB lk) (hb : Below W.heap.size W V) : Hp0 V S0 pt rf inb enb n AB GB RB lk := by
  obtain ⟨q1, q2, q3, q4, q5⟩ := h.pq
  have hs := hb.size
  exact ⟨there_below hb (by omega) h.tp, there_below hb (by omega) h.tr, there_below hb (by omega) h.ti, there_below hb (by omega) h.te, fun j hj => cell_mono hb (h.ptr j hj), fun j x hj => cell_mono hb (h.rfc j x hj), fun j x hj => cell_mono hb (h.inc j x hj), fun j x hj => cell_mono hb (h.enc j x hj),
    fun j x hj => cell_mono hb (h.a0 j x hj), fun j x hj => cell_mono hb (h.a1 j x hj), fun j x hj => cell_mono hb (h.a15 j x hj), fun j hj => (hb.frozen (p := ⟨AB j, 15, none⟩) (h.pa j hj).2).trans (h.fz j hj), fun j x hj => range_mono hb (h.rr j x hj), fun j x hj => range_mono hb (h.gg j x hj), ⟨q1, q2, q3, q4, by omega⟩,
    fun j hj => by have := h.pa j hj; omega, fun j hj => by have := h.pg j hj; omega, fun j hj => by have := h.pr j hj; omega, h.ne, h.nr, h.inj⟩
/-- the pointers, as a list -/
def ptrs (AB : Nat → Nat) (n : Nat) : List Value := (List.range n).map (fun j => Value.pointer (some ⟨AB j, 0, none⟩))
theorem ptrs_at {AB : Nat → Nat} {n j : Nat} (h : j < n) : (ptrs AB n)[j]? = some (.pointer (some ⟨AB j, 0, none⟩)) := by
  unfold ptrs
  rw [List.getElem?_map, List.getElem?_range h]; rfl
theorem ptrs_length (AB : Nat → Nat) (n : Nat) : (ptrs AB n).length = n := by simp [ptrs]
theorem ptrs_news (h : Hp0 W S0 pt rf inb enb n AB GB RB lk) : ∀ j u, (ptrs AB lk.length)[j]? = some u → W.cell? ((⟨pt, 0, none⟩ : Addr).add j) = some u := fun j u hu => by
  have hj : j < lk.length := by have := lt_of_at hu; rwa [ptrs_length] at this
  rw [ptrs_at hj] at hu
  injection hu with hu
  have hadd : (⟨pt, 0, none⟩ : Addr).add j = ⟨pt, j, none⟩ := by unfold Addr.add; split <;> simp_all
  rw [hadd, ← hu]; exact h.ptr j hj
theorem ptrs_one (AB : Nat → Nat) (n : Nat) : ∀ u ∈ ptrs AB n, u.oneCell' = true := fun u hu => by
  unfold ptrs at hu
  obtain ⟨j, _, rfl⟩ := List.mem_map.1 hu
  rfl
theorem hp_of {v' v0 : Value} {w' : World} (h : Hp0 W S0 pt rf inb enb n AB GB RB lk) (hmS : mb < S0) (hSW : S0 ≤ W.heap.size) (ho : w'.ownsRow W.heap.size 92 1 v' lk.length (ptrs AB lk.length)) (hgr : W.grownBy w' none) (hm : W.cell? ⟨mb, 42, none⟩ = some v0) :
    ∃ (la2 : Option Addr) (cap lb : Nat) (C : List Value), Hp (w'.setCell ⟨mb, 42, none⟩ v') S0 (w'.setCell ⟨mb, 42, none⟩ v').heap.size mb lb pt rf inb enb cap la2 AB GB RB lk C := by
  obtain ⟨q1, q2, q3, q4, q5⟩ := h.pq
  have hb : Below W.heap.size W w' := below_grown (Below.refl _ _) hgr (Nat.le_refl _) (fun k hk => by cases hk)
  have hm' : w'.cell? ⟨mb, 42, none⟩ = some v0 := (hb.cell (p := ⟨mb, 42, none⟩) (by show mb < _; omega)).trans hm
  have hms : (w'.setCell ⟨mb, 42, none⟩ v').cell? ⟨mb, 42, none⟩ = some v' := World.cell?_setCell_same _ _ _ hm'
  have hso : ∀ b, b ≠ mb → (w'.setCell ⟨mb, 42, none⟩ v').heap[b]? = w'.heap[b]? := fun b hb' => Go.Deep.blk_setCell_other _ _ _ _ hb'
  have hz : (w'.setCell ⟨mb, 42, none⟩ v').heap.size = w'.heap.size := by simp
  have hws := hb.size
  generalize w'.setCell ⟨mb, 42, none⟩ v' = X at *
  have hk : ∀ b, b < W.heap.size → b ≠ mb → X.heap[b]? = W.heap[b]? := fun b h1 h2 => (hso b h2).trans (hb.block b h1)
  have hc : ∀ b o v, b ≠ mb → W.cell? ⟨b, o, none⟩ = some v → X.cell? ⟨b, o, none⟩ = some v := fun b o v h2 h3 => (World.cell?_of_block (a := ⟨b, o, none⟩) (hk b (World.block_lt_of_cell? W _ h3) h2)).trans h3
  have hr : ∀ b cs, b ≠ mb → W.rangeAt b 0 cs → X.rangeAt b 0 cs := fun b cs h2 h3 j v hj => hc _ _ _ h2 (h3 j v hj)
  have base : ∀ (la2 : Option Addr) (cap lb : Nat) (C : List Value), v' = .slice la2 lk.length cap → (0 < lk.length → la2 = some ⟨lb, 0, none⟩ ∧ X.heap[lb]? = some (.cells C.toArray 92 (0, 0)) ∧ C.length = cap ∧ lk.length ≤ cap ∧ cap ≤ maxLen ∧ (∀ k, k < lk.length → C[k]? = some (.pointer (some ⟨AB k, 0, none⟩))) ∧ lb < X.heap.size) → (0 < lk.length → W.heap.size ≤ lb) →
      Hp X S0 X.heap.size mb lb pt rf inb enb cap la2 AB GB RB lk C := fun la2 cap lb C e h1 h2 => by
    refine ⟨fun j hj => hc _ _ _ (by omega) (h.ptr j hj), fun j x hj => hc _ _ _ (by omega) (h.rfc j x hj), fun j x hj => hc _ _ _ (by omega) (h.inc j x hj), fun j x hj => hc _ _ _ (by have := h.pa j (lt_of_at hj); omega) (h.a0 j x hj), fun j x hj => hc _ _ _ (by have := h.pa j (lt_of_at hj); omega) (h.a1 j x hj), fun j x hj => hc _ _ _ (by have := h.pa j (lt_of_at hj); omega) (h.a15 j x hj),
      fun j hj => ?_, fun j x hj => hr _ _ (by have := h.pr j (lt_of_at hj); omega) (h.rr j x hj), fun j x hj => hr _ _ (by have := h.pg j (lt_of_at hj); omega) (h.gg j x hj), by rw [hms, e], h1, by omega, fun j hj => ?_, fun j hj => ?_, fun j hj => ?_, h.ne, h.nr, h.inj, hmS, Nat.le_refl _⟩
    · have := h.pa j hj
      exact (World.frozen?_of_block (a := ⟨AB j, 15, none⟩) (hk (AB j) (by omega) (by omega))).trans (h.fz j hj)
    · have := h.pa j hj; have := h2 (by omega); omega
    · have := h.pg j hj; have := h2 (by omega); omega
    · have := h.pr j hj; have := h2 (by omega); omega
  rcases ho.2 with ⟨e, hn⟩ | ⟨q, cap, cur, e, hbq, hblk, hnc, hcm, hcs, htk⟩
  · exact ⟨none, 0, 0, [], base none 0 0 [] (by rw [e, hn]) (fun h0 => by omega) (fun h0 => by omega)⟩
  · refine ⟨some ⟨q, 0, none⟩, cap, q, cur.toList, base _ _ _ _ e (fun h0 => ⟨rfl, ?_, by simpa using hcs, hnc, hcm, fun k hk' => ?_, ?_⟩) (fun _ => hbq)⟩
    · rw [hso q (by omega)]; simpa using hblk
    · rw [← ptrs_at (AB := AB) hk', ← htk, List.getElem?_take, if_pos (by omega)]
    · rw [hz]; exact (Array.getElem?_eq_some_iff.1 hblk).1
theorem en_of (h : Hp0 W S0 pt rf inb enb lk.length AB GB RB lk) : En W enb lk.length ((lk.map ackOf).map Ack1.nl) := by
  refine ⟨h.te, fun j v hj => ?_, by simp⟩
  rw [List.getElem?_map, List.getElem?_map, List.getElem?_map] at hj
  cases hx : lk[j]? with
  | none => rw [hx] at hj; cases hj
  | some x =>
    rw [hx] at hj
    simp only [Option.map_some, Option.some.injEq] at hj
    rw [Nat.zero_add, h.enc j x hx, ← hj]; rfl
/-- the Member, whatever its cell 42 holds -/
def EvIf (W : World) (S0 mb hb g ob hib : Nat) (c : Pm) (now fr fi id : Int) (l : List Int) (es : Array MapEntry) (ck : Nat) (ids : List Tri) : Prop :=
  ∀ V : World, (∀ b, b < S0 → b ≠ mb → V.heap[b]? = W.heap[b]?) → (∀ o, o ≠ 42 → V.cell? ⟨mb, o, none⟩ = W.cell? ⟨mb, o, none⟩) → V.frozen? ⟨mb, 42, none⟩ = false → S0 ≤ V.heap.size → Ev V S0 mb hb g ob hib c now fr fi id l es ck ids
theorem EvIf.below {c : Pm} {now fr fi id : Int} {l : List Int} {es : Array MapEntry} {ck : Nat} {ids : List Tri} (h : EvIf W S0 mb hb g ob hib c now fr fi id l es ck ids) (hb' : Below S0 W V) (hm : mb < S0) : EvIf V S0 mb hb g ob hib c now fr fi id l es ck ids :=
  fun U h1 h2 h3 h4 => h U (fun b hb1 hb2 => (h1 b hb1 hb2).trans (hb'.block b hb1)) (fun o ho => (h2 o ho).trans (hb'.cell (p := ⟨mb, o, none⟩) hm)) h3 h4
end
end Go.Proofs.Ybulkdvuo
