import Derived.Test.YbulkdvuoT104
namespace Go.Proofs.Ybulkdvuo
open Go.RowKit
set_option linter.unusedSimpArgs false
def nv (j : Nat) : Value := .int .i64 (j : Int)
/-- an owned slice of IDs is readable -/
theorem idsV_own {W : World} {B : Nat} {v : Value} {ids : List Tri} (h : W.ownsRow B 86 3 v ids.length (tcs ids)) : IdsV W v ids := by
  rcases h.2 with ⟨rfl, hn⟩ | ⟨g, cap, cur, rfl, _⟩
  · exact ⟨none, 0, by rw [hn], fun h0 => by omega⟩
  · exact ⟨_, cap, rfl, fun _ => ⟨g, rfl, own_range h rfl⟩⟩
theorem ix_ex : ∀ (l : List Int) (v : Int), ∃ q, Ix l v q
  | [], v => ⟨-1, Or.inr ⟨rfl, fun j hj => by simp at hj⟩⟩
  | x :: l, v => by
    by_cases h : x = v
    · exact ⟨0, Or.inl ⟨0, by simp, rfl, h, fun j _ h => by omega⟩⟩
    · obtain ⟨q, hq⟩ := ix_ex l v
      rcases hq with ⟨k, hk, rfl, e, f⟩ | ⟨rfl, f⟩
      · refine ⟨((k + 1 : Nat) : Int), Or.inl ⟨k + 1, by simp; omega, rfl, by simpa using e, fun j hj hjk => ?_⟩⟩
        cases j with
        | zero => simpa using h
        | succ j => simpa using f j (by simpa using hj) (by omega)
      · refine ⟨-1, Or.inr ⟨rfl, fun j hj => ?_⟩⟩
        cases j with
        | zero => simpa using h
        | succ j => simpa using f j (by simpa using hj)
/-- what the Member is, to whom asks it -/
structure Ev (W : World) (S0 mb hb g ob hib : Nat) (c : Pm) (now fr fi id : Int) (l : List Int) (es : Array MapEntry) (ck : Nat) (ids : List Tri) : Prop where
  mem : ∀ V : World, Below S0 W V → Mem V mb g c.T c.r c.P 0 0 fr fi (some ⟨ob, 0, none⟩) l.length l.length l
  aft : ∀ V : World, Below S0 W V → Calls Yba.prog 12 #[.pointer (some ⟨mb, 0, none⟩)] V fun e w' => e = .returned (.int .i64 c.after) ∧ Below V.heap.size V w'
  c0 : W.cell? ⟨mb, 0, none⟩ = some (.int .i64 id)
  c30 : W.cell? ⟨mb, 30, none⟩ = some (.int .i64 now)
  c33 : W.cell? ⟨mb, 33, none⟩ = some (.map (some hb))
  c37 : W.cell? ⟨mb, 37, none⟩ = some (.map none)
  f42 : W.frozen? ⟨mb, 42, none⟩ = false
  hh : W.heap[hb]? = some (.map es ck)
  hid : W.rangeAt hib 0 (tcs ids)
  pl : mb < S0 ∧ hb < S0 ∧ hib < S0 ∧ S0 ≤ W.heap.size
section
variable {W V : World} {S0 L0 mb hb g ob hib : Nat} {c : Pm} {now fr fi id : Int} {l : List Int} {es : Array MapEntry} {ck : Nat} {ids : List Tri}
theorem Ev.below (h : Ev W S0 mb hb g ob hib c now fr fi id l es ck ids) (hb' : Below S0 W V) : Ev V S0 mb hb g ob hib c now fr fi id l es ck ids := by
  obtain ⟨p1, p2, p3, p4⟩ := h.pl
  exact ⟨fun U hU => h.mem U (hb'.trans hU), fun U hU => h.aft U (hb'.trans hU), (hb'.cell (p := ⟨mb, 0, none⟩) p1).trans h.c0, (hb'.cell (p := ⟨mb, 30, none⟩) p1).trans h.c30, (hb'.cell (p := ⟨mb, 33, none⟩) p1).trans h.c33, (hb'.cell (p := ⟨mb, 37, none⟩) p1).trans h.c37, (hb'.frozen (p := ⟨mb, 42, none⟩) p1).trans h.f42, (hb'.block hb p2).trans h.hh, rangeAt_below hb' p3 h.hid, p1, p2, p3, Nat.le_trans p4 hb'.size⟩
end
/-- the plain facts -/
structure Pu (c : Pm) (now fr fi id : Int) (l : List Int) (es : Array MapEntry) (ck hb : Nat) (ids : List Tri) : Prop where
  hT : 1 ≤ c.T ∧ c.T ≤ 1000
  hr : 0 ≤ c.r ∧ c.r ≤ 7
  hP : 1 ≤ c.P ∧ c.P ≤ 1000
  hn : -2147483648 ≤ now ∧ now ≤ 2147483647
  hu : -9223372036854775808 ≤ c.until_ ∧ c.until_ ≤ 9223372036854775807
  cl : c.closed = slotOf c.T (now - (Rw c.r c.P + Rw c.r c.P)) - 1
  af : -9223372036854775808 ≤ c.after ∧ c.after ≤ 9223372036854775807
  held : ∃ f, HeldAs es ck hb c.held f
  mem : ∀ t, t ∈ c.held ↔ t ∈ ids
  ff : ∃ q, Ix l id q ∧ ∀ J, c.ff J = firstOf l.length fr fi J q
  b1 : -1000000 ≤ fr ∧ fr ≤ 1000000
  b2 : -1000000 ≤ fi ∧ fi ≤ 1000000
  b3 : l.length ≤ 4096
  b4 : ids.length ≤ 4096
/-- where the ACKs lie -/
structure Hp (W : World) (S0 L0 mb lb pt rf inb enb cap : Nat) (la2 : Option Addr) (AB GB RB : Nat → Nat) (lk : List In1) (C : List Value) : Prop where
  ptr : ∀ j, j < lk.length → W.cell? ⟨pt, j, none⟩ = some (.pointer (some ⟨AB j, 0, none⟩))
  rfc : ∀ (j : Nat) (x : In1), lk[j]? = some x → W.cell? ⟨rf, j, none⟩ = some (.slice (some ⟨RB j, 0, none⟩) x.refs.length x.refs.length)
  inc : ∀ (j : Nat) (x : In1), lk[j]? = some x → W.cell? ⟨inb, j, none⟩ = some (.int .i64 (ackOf x).nl)
  a0 : ∀ (j : Nat) (x : In1), lk[j]? = some x → W.cell? ⟨AB j, 0, none⟩ = some (.int .i64 x.J)
  a1 : ∀ (j : Nat) (x : In1), lk[j]? = some x → W.cell? ⟨AB j, 1, none⟩ = some (.slice (some ⟨GB j, 0, none⟩) x.refs.length x.refs.length)
  a15 : ∀ (j : Nat) (x : In1), lk[j]? = some x → W.cell? ⟨AB j, 15, none⟩ = some (.int .i64 (ackOf x).nl)
  fz : ∀ j, j < lk.length → W.frozen? ⟨AB j, 15, none⟩ = false
  rr : ∀ (j : Nat) (x : In1), lk[j]? = some x → W.rangeAt (RB j) 0 (tcs (x.refs.map m4))
  gg : ∀ (j : Nat) (x : In1), lk[j]? = some x → W.rangeAt (GB j) 0 (tcs (x.refs.map m4))
  m42 : W.cell? ⟨mb, 42, none⟩ = some (.slice la2 lk.length cap)
  row : 0 < lk.length → la2 = some ⟨lb, 0, none⟩ ∧ W.heap[lb]? = some (.cells C.toArray 92 (0, 0)) ∧ C.length = cap ∧ lk.length ≤ cap ∧ cap ≤ maxLen ∧ (∀ k, k < lk.length → C[k]? = some (.pointer (some ⟨AB k, 0, none⟩))) ∧ lb < L0
  pq : S0 ≤ pt ∧ pt < enb ∧ S0 ≤ rf ∧ rf < enb ∧ S0 ≤ inb ∧ inb < enb ∧ enb < L0
  pa : ∀ j, j < lk.length → enb < AB j ∧ AB j < lb
  pg : ∀ j, j < lk.length → enb < GB j ∧ GB j < lb
  pr : ∀ j, j < lk.length → enb < RB j ∧ RB j < lb
  ne : ∀ j k, j < lk.length → k < lk.length → GB j ≠ AB k
  nr : ∀ j k, j < lk.length → k < lk.length → RB j ≠ AB k
  inj : ∀ j k, j < lk.length → k < lk.length → j ≠ k → AB j ≠ AB k
  pl : mb < S0 ∧ L0 ≤ W.heap.size
section
variable {W V : World} {S0 L0 mb lb pt rf inb enb cap : Nat} {la2 : Option Addr} {AB GB RB : Nat → Nat} {lk : List In1} {C : List Value}
theorem lt_of_at {α : Type} {l : List α} {j : Nat} {x : α} (h : l[j]? = some x) : j < l.length := (List.getElem?_eq_some_iff.1 h).1
theorem Hp.keep (h : Hp W S0 L0 mb lb pt rf inb enb cap la2 AB GB RB lk C) (hk : ∀ b, b < L0 → b ≠ enb → V.heap[b]? = W.heap[b]?) (hs : W.heap.size ≤ V.heap.size) : Hp V S0 L0 mb lb pt rf inb enb cap la2 AB GB RB lk C := by
  obtain ⟨q1, q2, q3, q4, q5, q6, q7⟩ := h.pq
  obtain ⟨q8, q9⟩ := h.pl
  have hc : ∀ b o, b < L0 → b ≠ enb → V.cell? ⟨b, o, none⟩ = W.cell? ⟨b, o, none⟩ := fun b o h1 h2 => World.cell?_of_block (a := ⟨b, o, none⟩) (hk b h1 h2)
  have hf : ∀ b o, b < L0 → b ≠ enb → V.frozen? ⟨b, o, none⟩ = W.frozen? ⟨b, o, none⟩ := fun b o h1 h2 => World.frozen?_of_block (a := ⟨b, o, none⟩) (hk b h1 h2)
  have ra : ∀ b cs, b < L0 → b ≠ enb → W.rangeAt b 0 cs → V.rangeAt b 0 cs := fun b cs h1 h2 h3 j v hj => (hc b _ h1 h2).trans (h3 j v hj)
  have hl : 0 < lk.length → lb < L0 := fun h0 => (h.row h0).2.2.2.2.2.2
  have ja : ∀ j, j < lk.length → AB j < L0 ∧ AB j ≠ enb := fun j hj => by have := h.pa j hj; have := hl (by omega); omega
  have jg : ∀ j, j < lk.length → GB j < L0 ∧ GB j ≠ enb := fun j hj => by have := h.pg j hj; have := hl (by omega); omega
  have jr : ∀ j, j < lk.length → RB j < L0 ∧ RB j ≠ enb := fun j hj => by have := h.pr j hj; have := hl (by omega); omega
  refine ⟨fun j hj => (hc pt j (by omega) (by omega)).trans (h.ptr j hj), fun j x hj => (hc rf j (by omega) (by omega)).trans (h.rfc j x hj), fun j x hj => (hc inb j (by omega) (by omega)).trans (h.inc j x hj),
    fun j x hj => (hc _ _ (ja j (lt_of_at hj)).1 (ja j (lt_of_at hj)).2).trans (h.a0 j x hj), fun j x hj => (hc _ _ (ja j (lt_of_at hj)).1 (ja j (lt_of_at hj)).2).trans (h.a1 j x hj), fun j x hj => (hc _ _ (ja j (lt_of_at hj)).1 (ja j (lt_of_at hj)).2).trans (h.a15 j x hj),
    fun j hj => (hf _ _ (ja j hj).1 (ja j hj).2).trans (h.fz j hj), fun j x hj => ra _ _ (jr j (lt_of_at hj)).1 (jr j (lt_of_at hj)).2 (h.rr j x hj), fun j x hj => ra _ _ (jg j (lt_of_at hj)).1 (jg j (lt_of_at hj)).2 (h.gg j x hj),
    (hc mb 42 (by omega) (by omega)).trans h.m42, fun h0 => ?_, h.pq, h.pa, h.pg, h.pr, h.ne, h.nr, h.inj, q8, by omega⟩
  obtain ⟨e1, e2, e3⟩ := h.row h0
  have hp := h.pa 0 h0
  exact ⟨e1, (hk lb (hl h0) (by omega)).trans e2, e3⟩
end
/-- the world within the law's own loop -/
structure Kp (W0 W : World) (L0 enb : Nat) : Prop where
  os : W.os = W0.os
  tape : W.tape = W0.tape
  output : W.output = W0.output
  size : W0.heap.size ≤ W.heap.size
  keep : ∀ b, b < L0 → b ≠ enb → W.heap[b]? = W0.heap[b]?
theorem Kp.low {W0 W : World} {L0 enb B : Nat} (h : Kp W0 W L0 enb) (h1 : B ≤ enb) (h2 : B ≤ L0) : Below B W0 W :=
  ⟨h.os, h.tape, h.output, h.size, fun b hb => h.keep b (by omega) (by omega)⟩
theorem Kp.below {W0 W V : World} {L0 enb B : Nat} (h : Kp W0 W L0 enb) (hb : Below B W V) (hB : L0 ≤ B) : Kp W0 V L0 enb :=
  ⟨hb.os.trans h.os, hb.tape.trans h.tape, hb.output.trans h.output, Nat.le_trans h.size hb.size, fun b h1 h2 => (hb.block b (by omega)).trans (h.keep b h1 h2)⟩
theorem Kp.refl (W0 : World) (L0 enb : Nat) : Kp W0 W0 L0 enb := ⟨rfl, rfl, rfl, Nat.le_refl _, fun _ _ _ => rfl⟩
theorem Kp.set {W0 W : World} {L0 enb : Nat} (h : Kp W0 W L0 enb) (o : Nat) (v : Value) : Kp W0 (W.setCell ⟨enb, o, none⟩ v) L0 enb :=
  ⟨h.os, h.tape, h.output, by simpa using h.size, fun b h1 h2 => (Go.Deep.blk_setCell_other _ _ _ _ h2).trans (h.keep b h1 h2)⟩
/-- the counts' row -/
structure En (W : World) (enb n : Nat) (NL : List Nat) : Prop where
  th : W.there enb 0 n
  rd : W.rangeAt enb 0 (NL.map nv)
  len : NL.length = n
theorem En.below {W V : World} {enb n B : Nat} {NL : List Nat} (h : En W enb n NL) (hb : Below B W V) (hB : enb < B) : En V enb n NL := ⟨there_below hb hB h.th, rangeAt_below hb hB h.rd, h.len⟩
theorem En.at {W : World} {enb n i m : Nat} {NL : List Nat} (h : En W enb n NL) (hi : NL[i]? = some m) : W.cell? ⟨enb, i, none⟩ = some (.int .i64 m) := by
  have := h.rd i (.int .i64 m) (by simp [hi, nv])
  rwa [Nat.zero_add] at this
theorem En.set {W : World} {enb n i : Nat} {NL : List Nat} (h : En W enb n NL) (hi : i < n) (m : Nat) : En (W.setCell ⟨enb, i, none⟩ (.int .i64 m)) enb n (NL.set i m) := by
  refine ⟨World.there_setCells h.th enb i [.int .i64 m], ?_, by rw [List.length_set]; exact h.len⟩
  have := rangeAt_setAt (v := .int .i64 m) h.rd (i := i) (by rw [List.length_map, h.len]; exact hi)
  rw [Nat.zero_add] at this
  rw [List.map_set]; exact this
/-- the rows that the law's own loop makes -/
structure Rw6 (W : World) (L0 eb ec : Nat) (kv : Value) (GV : List (Gap1 × Value)) (K : List Nat) : Prop where
  eo : W.ownsRow L0 107 7 (.slice (some ⟨eb, 0, none⟩) (1 + GV.length) ec) (1 + GV.length) (preCells ++ gcs GV)
  ko : W.ownsRow L0 3 1 kv K.length (K.map nv)
  gv : ∀ p ∈ GV, W.ownsRow L0 86 3 p.2 p.1.ids.length (tcs p.1.ids)
  ae : ∀ p ∈ GV, p.2.ownBlock ≠ some eb
  ak : kv.ownBlock ≠ some eb
  ag : ∀ p ∈ GV, ∀ q, kv.ownBlock = some q → p.2.ownBlock ≠ some q
section
variable {W V : World} {L0 eb ec : Nat} {kv : Value} {GV : List (Gap1 × Value)} {K : List Nat}
theorem Rw6.move (h : Rw6 W L0 eb ec kv GV K) (hk : ∀ b, L0 ≤ b → b < W.heap.size → V.heap[b]? = W.heap[b]?) : Rw6 V L0 eb ec kv GV K :=
  ⟨own_keep h.eo (fun q hq => hk q (h.eo.lt q hq).1 (h.eo.lt q hq).2), own_keep h.ko (fun q hq => hk q (h.ko.lt q hq).1 (h.ko.lt q hq).2), fun p hp => own_keep (h.gv p hp) (fun q hq => hk q ((h.gv p hp).lt q hq).1 ((h.gv p hp).lt q hq).2), h.ae, h.ak, h.ag⟩
theorem Rw6.below {B : Nat} (h : Rw6 W L0 eb ec kv GV K) (hb : Below B W V) (hB : W.heap.size ≤ B) : Rw6 V L0 eb ec kv GV K := h.move (fun b _ h2 => hb.block b (by omega))
/-- a kept place more -/
theorem Rw6.push (h : Rw6 W L0 eb ec kv GV K) {kv' : Value} {k : Nat} (hg : W.grownBy V kv.ownBlock) (ho : V.ownsRow L0 3 1 kv' (K.length + 1) (K.map nv ++ [.int .i64 (k : Int)])) (hat : kv'.ownBlock = kv.ownBlock ∨ kv'.ownBlock = some W.heap.size) : Rw6 V L0 eb ec kv' GV (K ++ [k]) := by
  have hlt := h.eo.lt eb rfl
  refine ⟨h.eo.kept hg (Or.inr (fun e => h.ak e.symm)), by simpa [nv] using ho, fun p hp => ?_, h.ae, ?_, fun p hp q hq => ?_⟩
  · refine own_keep (h.gv p hp) (fun q hq => hg.block q ((h.gv p hp).lt q hq).2 (fun e => h.ag p hp q e.symm hq))
  · rcases hat with e | e
    · rw [e]; exact h.ak
    · rw [e]; intro e2; injection e2 with e2; omega
  · rcases hat with e | e
    · exact h.ag p hp q (e ▸ hq)
    · rw [e] at hq
      injection hq with hq
      intro e2
      have := ((h.gv p hp).lt q e2).2; omega
/-- a gap more -/
theorem Rw6.found (h : Rw6 W L0 eb ec kv GV K) {gp : Gap1} {v : Value} {eb' ec' : Nat} (hg : W.grownBy V (some eb)) (ho : V.ownsRow L0 107 7 (.slice (some ⟨eb', 0, none⟩) (1 + GV.length + 1) ec') (1 + GV.length + 1) (preCells ++ gcs GV ++ gc (gp, v))) (hat : eb' = eb ∨ eb' = W.heap.size)
    (hv : W.ownsRow L0 86 3 v gp.ids.length (tcs gp.ids)) (hve : v.ownBlock ≠ some eb) (hvk : ∀ q, kv.ownBlock = some q → v.ownBlock ≠ some q) : Rw6 V L0 eb' ec' kv (GV ++ [(gp, v)]) K := by
  have hall : ∀ p ∈ GV ++ [(gp, v)], W.ownsRow L0 86 3 p.2 p.1.ids.length (tcs p.1.ids) ∧ p.2.ownBlock ≠ some eb ∧ ∀ q, kv.ownBlock = some q → p.2.ownBlock ≠ some q := fun p hp => by
    rcases List.mem_append.1 hp with hp | hp
    · exact ⟨h.gv p hp, h.ae p hp, h.ag p hp⟩
    · simp at hp; subst hp; exact ⟨hv, hve, hvk⟩
  refine ⟨?_, h.ko.kept hg (Or.inr h.ak), fun p hp => ?_, fun p hp => ?_, ?_, fun p hp => (hall p hp).2.2⟩
  · have e1 : 1 + (GV ++ [(gp, v)]).length = 1 + GV.length + 1 := by simp; omega
    have e2 : preCells ++ gcs (GV ++ [(gp, v)]) = preCells ++ gcs GV ++ gc (gp, v) := by simp [gcs]
    rw [e1, e2]; exact ho
  · exact own_keep (hall p hp).1 (fun q hq => hg.block q ((hall p hp).1.lt q hq).2 (fun e => (hall p hp).2.1 (by rw [hq, e])))
  · rcases hat with e | e
    · rw [e]; exact (hall p hp).2.1
    · intro e2
      have := ((hall p hp).1.lt _ e2).2; omega
  · rcases hat with e | e
    · rw [e]; exact h.ak
    · intro e2
      have := (h.ko.lt _ e2).2; omega
end
end Go.Proofs.Ybulkdvuo
