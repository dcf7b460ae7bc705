import Derived.Test.YbulkdvuoTk
namespace Go.Proofs.Ybulkdvuo
open Go.RowKit
set_option linter.unusedSimpArgs false
theorem gaps_facts (c : Pm) : ∀ (A : List Ack1) (k : Nat), (∀ j ∈ (gaps c k A).2.1, k ≤ j ∧ j < k + A.length) ∧ (gaps c k A).2.1.length ≤ A.length ∧ (gaps c k A).1.length ≤ A.length ∧ (gaps c k A).2.2.length = A.length ∧ (∀ m, (∀ a ∈ A, a.refs.length ≤ m) → ∀ g ∈ (gaps c k A).1, g.ids.length ≤ m)
  | [], k => by simp [gaps]
  | a :: r, k => by
    obtain ⟨h1, h2, h3, h4, h5⟩ := gaps_facts c r (k + 1)
    have h1' : ∀ j ∈ (gaps c (k + 1) r).2.1, k ≤ j ∧ j < k + (r.length + 1) := fun j hj => by have := h1 j hj; omega
    have h5' : ∀ m, (∀ x ∈ a :: r, x.refs.length ≤ m) → ∀ g ∈ (gaps c (k + 1) r).1, g.ids.length ≤ m := fun m hm => h5 m (fun x hx => hm x (by simp [hx]))
    unfold gaps
    split
    · refine ⟨fun j hj => ?_, by simp, by simp, by simp, fun _ _ => by simp⟩
      rw [List.mem_range'] at hj
      obtain ⟨i, hi, rfl⟩ := hj
      simp only [List.length_cons]; omega
    · split
      · refine ⟨fun j hj => ?_, by simp; omega, by simp; omega, by simp [h4], h5'⟩
        simp only [List.mem_cons] at hj
        rcases hj with rfl | hj
        · simp
        · exact h1' j hj
      · split
        · exact ⟨h1', by simp; omega, by simp; omega, by simp [h4], h5'⟩
        · refine ⟨fun j hj => ?_, by simp; omega, ?_, by simp [h4], fun m hm g hg => ?_⟩
          · simp only [List.mem_cons] at hj
            rcases hj with rfl | hj
            · simp
            · exact h1' j hj
          · simp only [List.length_append, List.length_cons]
            split <;> simp <;> omega
          · rcases List.mem_append.1 hg with hg | hg
            · split at hg
              · simp at hg; subst hg
                refine Nat.le_trans (List.length_filter_le _ _) ?_
                rw [List.length_drop]
                have := hm a (by simp); omega
              · simp at hg
            · exact h5' m hm g hg
section
variable {w W wl : World} {S0 L0 mb hb g ob hib lb pt rf inb enb cap eb ec fg fc : Nat} {c : Pm} {now fr fi id : Int} {l : List Int} {es : Array MapEntry} {ck : Nat} {ids : List Tri} {la2 : Option Addr} {AB GB RB NN : Nat → Nat} {lk : List In1} {C C' : List Value} {kv : Value} {GV GV' : List (Gap1 × Value)} {K N : List Nat}
theorem ack_at {k : Nat} {a : Ack1} (h : (lk.map ackOf)[k]? = some a) : ∃ x, lk[k]? = some x ∧ a = ackOf x := by
  rw [List.getElem?_map] at h
  cases hx : lk[k]? with
  | none => rw [hx] at h; cases h
  | some x => rw [hx] at h; simp at h; exact ⟨x, rfl, h.symm⟩
theorem lk_of (hE : Ev W S0 mb hb g ob hib c now fr fi id l es ck ids) (hH : Hp W S0 L0 mb lb pt rf inb enb cap la2 AB GB RB lk C) (h0 : 0 < lk.length) (o : Obj) : Lk (W.alloc o) mb hb lb W.heap.size S0 cap AB GB es ck (lk.map ackOf) C := by
  obtain ⟨r1, r2, r3, r4, r5, r6, r7⟩ := hH.row h0
  obtain ⟨q1, q2, q3, q4, q5, q6, q7⟩ := hH.pq
  obtain ⟨p1, p2⟩ := hH.pl
  obtain ⟨p3, p4, p5, p6⟩ := hE.pl
  have hp0 := hH.pa 0 h0
  have hB : Below W.heap.size W (W.alloc o) := (Below.refl _ _).alloc (Nat.le_refl _) _
  have m42 := hH.m42
  rw [r1] at m42
  refine ⟨by rw [List.length_map]; exact cell_mono hB m42, (hB.frozen (p := ⟨mb, 42, none⟩) (by show mb < _; omega)).trans hE.f42, (hB.block lb (by omega)).trans r2, r3, by rw [List.length_map]; exact r4, r5, fun k hk => r6 k (by simpa using hk), fun k a ha => ?_, fun k a ha => ?_, fun k a ha => ?_, fun k hk => ?_, fun k a ha => ?_,
    cell_mono hB hE.c33, cell_mono hB hE.c37, (hB.block hb (by omega)).trans hE.hh, p1, p4, fun k hk => ?_, fun k hk => ?_, fun j k hj hk => hH.ne j k (by simpa using hj) (by simpa using hk), fun j k hj hk => hH.inj j k (by simpa using hj) (by simpa using hk), by omega, by omega, by simp⟩
  · obtain ⟨x, hx, rfl⟩ := ack_at ha
    exact cell_mono hB (hH.a0 k x hx)
  · obtain ⟨x, hx, rfl⟩ := ack_at ha
    have := cell_mono hB (hH.a1 k x hx)
    simpa [ackOf] using this
  · obtain ⟨x, hx, rfl⟩ := ack_at ha
    exact cell_mono hB (hH.a15 k x hx)
  · have hk' : k < lk.length := by simpa using hk
    have := hH.pa k hk'
    exact (hB.frozen (p := ⟨AB k, 15, none⟩) (by show AB k < _; omega)).trans (hH.fz k hk')
  · obtain ⟨x, hx, rfl⟩ := ack_at ha
    exact idsAt_of (range_mono hB (hH.gg k x hx))
  · have := hH.pa k (by simpa using hk); omega
  · have := hH.pg k (by simpa using hk); omega
theorem preLE (GV : List (Gap1 × Value)) : preCells ++ gcs GV = gcs ((⟨1, 9, 0, []⟩, .slice none 0 0) :: GV) := by
  simp [gcs, gc, preCells]
/-- all that the compare reads, behind messageGaps -/
theorem aft_of (hH : Hp W S0 L0 mb lb pt rf inb enb cap la2 AB GB RB lk C) (h0 : 0 < lk.length) (hN : En W enb lk.length N) (hR : Rw6 W L0 eb ec kv GV K) {o : Obj} {ka : Option Addr} {kc : Nat} (hkv : kv = .slice ka K.length kc)
    (hg : gaps c 0 (lk.map ackOf) = (GV.map (·.1), K, N)) (hg' : gaps c 0 (lk.map ackOf) = (GV'.map (·.1), K, (List.range lk.length).map NN)) (hl : ∀ x ∈ lk, x.refs.length ≤ 4096)
    (hP : Lp (W.alloc o) wl lb W.heap.size lk.length cap AB NN K GV' fg fc lk.length C C') (hB : Below w.heap.size w W) (hmb : w.heap.size ≤ mb) :
    Ck (wl.setCell ⟨mb, 42, none⟩ (.slice (some ⟨lb, 0, none⟩) K.length cap)) pt rf enb AB GB RB lk N ∧ Ckk (wl.setCell ⟨mb, 42, none⟩ (.slice (some ⟨lb, 0, none⟩) K.length cap)) mb ka (some ⟨lb, 0, none⟩) K cap AB lk.length ∧
      Cg (wl.setCell ⟨mb, 42, none⟩ (.slice (some ⟨lb, 0, none⟩) K.length cap)) eb fg ((⟨1, 9, 0, []⟩, .slice none 0 0) :: GV) ((⟨1, 9, 0, []⟩, .slice none 0 0) :: GV') ∧ Below w.heap.size w (wl.setCell ⟨mb, 42, none⟩ (.slice (some ⟨lb, 0, none⟩) K.length cap)) := by
  obtain ⟨r1, r2, r3, r4, r5, r6, r7⟩ := hH.row h0
  obtain ⟨q1, q2, q3, q4, q5, q6, q7⟩ := hH.pq
  obtain ⟨p1, p2⟩ := hH.pl
  have hp0 := hH.pa 0 h0
  have hBa : Below W.heap.size W (W.alloc o) := (Below.refl _ _).alloc (Nat.le_refl _) _
  have hsz : W.heap.size + 1 ≤ wl.heap.size := by have := hP.size; simpa using this
  obtain ⟨f1, f2, f3, f4, f5⟩ := gaps_facts c (lk.map ackOf) 0
  rw [hg] at f1 f2 f3 f4 f5
  simp only [List.length_map, Nat.zero_add] at f1 f2 f3 f4
  have hlow : Below S0 (W.alloc o) wl := hP.low (by omega) (by omega) (by simp) (fun j hj => by have := hH.pa j hj; omega)
  have hmwl : wl.cell? ⟨mb, 42, none⟩ = some (.slice la2 lk.length cap) := (hlow.cell (p := ⟨mb, 42, none⟩) p1).trans (cell_mono hBa hH.m42)
  have ho : ∀ b, b ≠ mb → (wl.setCell ⟨mb, 42, none⟩ (.slice (some ⟨lb, 0, none⟩) K.length cap)).heap[b]? = wl.heap[b]? := fun b hb' => Go.Deep.blk_setCell_other _ _ _ _ hb'
  have hk : ∀ b, b < W.heap.size → b ≠ lb → (∀ j, j < lk.length → b ≠ AB j) → b ≠ mb → (wl.setCell ⟨mb, 42, none⟩ (.slice (some ⟨lb, 0, none⟩) K.length cap)).heap[b]? = W.heap[b]? := fun b h1 h2 h3 h4 =>
    (ho b h4).trans ((hP.keep b (by simp; omega) h2 (by omega) h3).trans (hBa.block b h1))
  have hc : ∀ b o', b < W.heap.size → b ≠ lb → (∀ j, j < lk.length → b ≠ AB j) → b ≠ mb → (wl.setCell ⟨mb, 42, none⟩ (.slice (some ⟨lb, 0, none⟩) K.length cap)).cell? ⟨b, o', none⟩ = W.cell? ⟨b, o', none⟩ := fun b o' h1 h2 h3 h4 => World.cell?_of_block (a := ⟨b, o', none⟩) (hk b h1 h2 h3 h4)
  have hck : ∀ j o', j < lk.length → o' ≠ 15 → (wl.setCell ⟨mb, 42, none⟩ (.slice (some ⟨lb, 0, none⟩) K.length cap)).cell? ⟨AB j, o', none⟩ = W.cell? ⟨AB j, o', none⟩ := fun j o' hj ho' => by
    have hpj := hH.pa j hj
    rw [World.cell?_of_block (a := ⟨AB j, o', none⟩) (ho (AB j) (by omega)), World.cell?_of_block (a := ⟨AB j, o', none⟩) (hP.ack j hj), World.cell?_setCell_other (h := by intro e; injection e with _ e2; omega)]
    exact hBa.cell (p := ⟨AB j, o', none⟩) (by show AB j < _; omega)
  have hhi : ∀ b, L0 ≤ b → b < W.heap.size → (wl.setCell ⟨mb, 42, none⟩ (.slice (some ⟨lb, 0, none⟩) K.length cap)).heap[b]? = W.heap[b]? := fun b h1 h2 => hk b h2 (by omega) (fun j hj => by have := hH.pa j hj; omega) (by omega)
  have hnew : ∀ b, W.heap.size ≤ b → (wl.setCell ⟨mb, 42, none⟩ (.slice (some ⟨lb, 0, none⟩) K.length cap)).heap[b]? = wl.heap[b]? := fun b h1 => ho b (by omega)
  have hR' := hR.move hhi
  have hs : (wl.setCell ⟨mb, 42, none⟩ (.slice (some ⟨lb, 0, none⟩) K.length cap)).heap.size = wl.heap.size := by simp
  have hms : (wl.setCell ⟨mb, 42, none⟩ (.slice (some ⟨lb, 0, none⟩) K.length cap)).cell? ⟨mb, 42, none⟩ = some (.slice (some ⟨lb, 0, none⟩) K.length cap) := World.cell?_setCell_same _ _ _ hmwl
  have hbl : Below w.heap.size w (wl.setCell ⟨mb, 42, none⟩ (.slice (some ⟨lb, 0, none⟩) K.length cap)) := ((hB.trans (hBa.mono hB.size)).trans (hlow.mono (by omega))).setCell (by show w.heap.size ≤ mb; exact hmb) _
  have hNN : ∀ (j n : Nat), N[j]? = some n → NN j = n := fun j n hj => by
    rw [hg] at hg'
    have e : N = (List.range lk.length).map NN := by injection hg' with _ h2; injection h2
    rw [e, List.getElem?_map] at hj
    cases hr : (List.range lk.length)[j]? with
    | none => rw [hr] at hj; cases hj
    | some m =>
      rw [hr] at hj
      have := (List.getElem?_eq_some_iff.1 hr).2
      simp at this
      simp at hj
      rw [this]; exact hj
  have hNl : ∀ (j n : Nat), N[j]? = some n → j < lk.length := fun j n hj => by have := lt_of_at hj; rw [hN.len] at this; exact this
  generalize (wl.setCell ⟨mb, 42, none⟩ (.slice (some ⟨lb, 0, none⟩) K.length cap)) = X at *
  refine ⟨⟨fun j hj => (hc pt j (by omega) (by omega) (fun i hi => by have := hH.pa i hi; omega) (by omega)).trans (hH.ptr j hj), fun j x hj => (hc rf j (by omega) (by omega) (fun i hi => by have := hH.pa i hi; omega) (by omega)).trans (hH.rfc j x hj), fun j n hj => (hc enb j (by omega) (by omega) (fun i hi => by have := hH.pa i hi; omega) (by omega)).trans (hN.at hj),
    fun j x hj => (hck j 0 (lt_of_at hj) (by omega)).trans (hH.a0 j x hj), fun j x hj => (hck j 1 (lt_of_at hj) (by omega)).trans (hH.a1 j x hj), fun j n hj => ?_, fun j x hj i v hi => ?_, fun j x hj i v hi => ?_, hN.len⟩, ⟨fun h0 => ?_, hms, fun _ => ⟨lb, rfl, fun i j hij => ?_⟩, fun j hj => (f1 j hj).2, f2⟩, ⟨?_, ?_, fun p hp => ?_, fun p hp => ?_, ?_, ?_, ?_, fun p hp => ?_⟩, hbl⟩
  · have hjl := hNl j n hj
    have hpj := hH.pa j hjl
    obtain ⟨x, hx⟩ : ∃ x, lk[j]? = some x := ⟨_, List.getElem?_eq_getElem hjl⟩
    rw [World.cell?_of_block (a := ⟨AB j, 15, none⟩) (ho (AB j) (by omega)), World.cell?_of_block (a := ⟨AB j, 15, none⟩) (hP.ack j hjl), World.cell?_setCell_same _ _ _ (cell_mono hBa (hH.a15 j x hx)), hNN j n hj]
  · have hjl := lt_of_at hj
    have := hH.pr j hjl
    exact (hc (RB j) (0 + i) (by omega) (by omega) (fun k hk' => hH.nr j k hjl hk') (by omega)).trans (hH.rr j x hj i v hi)
  · have hjl := lt_of_at hj
    have := hH.pg j hjl
    exact (hc (GB j) (0 + i) (by omega) (by omega) (fun k hk' => hH.ne j k hjl hk') (by omega)).trans (hH.gg j x hj i v hi)
  · have hko := hR'.ko
    rcases hko.2 with ⟨_, hn⟩ | ⟨q, cp, cur, e, _⟩
    · omega
    · rw [hkv] at e
      injection e with e1 e2 e3
      refine ⟨q, e1, fun i j hij => ?_⟩
      have := own_range hko (g := q) (by rw [hkv, e1]; rfl) i (.int .i64 j) (by simp [hij, nv])
      rwa [Nat.zero_add] at this
  · rw [World.cell?_of_block (a := ⟨lb, i, none⟩) (ho lb (by omega)), cell_of_row wl lb i _ _ _ hP.blk]
    simpa using hP.ckk i j hij
  · rw [← preLE]; exact own_range hR'.eo rfl
  · rw [← preLE]
    have hf := own_range hP.fo (g := fg) rfl
    have hfp := hP.fp
    have hfa : (W.alloc o).heap.size = W.heap.size + 1 := by simp
    exact fun j v hj => (World.cell?_of_block (a := ⟨fg, 0 + j, none⟩) (hnew fg (by omega))).trans (hf j v hj)
  · simp only [List.mem_cons] at hp
    rcases hp with rfl | hp
    · exact ⟨none, 0, rfl, fun h => by simp at h⟩
    · exact idsV_own (hR'.gv p hp)
  · simp only [List.mem_cons] at hp
    rcases hp with rfl | hp
    · exact ⟨none, 0, rfl, fun h => by simp at h⟩
    · have hgo := hP.gv p hp
      exact idsV_own (own_keep hgo (fun q hq => hnew q (by have := (hgo.lt q hq).1; simp at this; omega)))
  · rw [hg] at hg'
    have : GV.map (·.1) = GV'.map (·.1) := by injection hg'
    simp [this]
  · exact (hR'.eo.lt eb rfl).2
  · rw [hs]; exact (hP.fo.lt fg rfl).2
  · simp only [List.mem_cons] at hp
    rcases hp with rfl | hp
    · simp
    · refine f5 4096 (fun a ha => ?_) p.1 (List.mem_map_of_mem hp)
      obtain ⟨x, hx, rfl⟩ := List.mem_map.1 ha
      simpa [ackOf] using hl x hx
end
end Go.Proofs.Ybulkdvuo
