import Derived.Test.YbulkdvuoLp2
namespace Go.Proofs.Ybulkdvuo
open Go.RowKit
set_option linter.unusedSimpArgs false

theorem opn_bd (c : Pm) {J : Int} (hT : 1 ≤ c.T ∧ c.T ≤ 1000) (hr : 0 ≤ c.r ∧ c.r ≤ 7) (hP : 1 ≤ c.P ∧ c.P ≤ 1000) (hJ : -32768 ≤ J ∧ J ≤ 32767) : -40000000 ≤ c.opn J ∧ c.opn J ≤ 40000000 := by
  have h1 := jT_bd hJ hT
  have h2 := Rw_bd hr hP
  unfold Pm.opn
  omega
theorem nn_all {A : List Ack1} {NN : Nat → Nat} {k : Nat} (h : ∀ (j : Nat) (a : Ack1), k ≤ j → A[j]? = some a → NN j = a.nl) (hk : k ≤ A.length) : (List.range k).map NN ++ (A.drop k).map Ack1.nl = (List.range A.length).map NN := by
  apply List.ext_getElem?
  intro i
  by_cases hi : i < k
  · rw [List.getElem?_append_left (by simpa using hi)]
    simp [hi, show i < A.length by omega]
  · rw [List.getElem?_append_right (by simp; omega), List.length_map, List.length_range, List.getElem?_map, List.getElem?_drop, show k + (i - k) = i by omega]
    by_cases hl : i < A.length
    · have ha := List.getElem?_eq_getElem hl
      have hn := h i _ (by omega) ha
      simp [hl, hn]
    · simp [hl]
theorem nn_succ (NN : Nat → Nat) (k m : Nat) (h : NN k = m) : (List.range (k + 1)).map NN = (List.range k).map NN ++ [m] := by
  rw [List.range_succ, List.map_append, ← h]; rfl
theorem nn_set (NN : Nat → Nat) (k m : Nat) : (List.range (k + 1)).map (fun j => if j = k then m else NN j) = (List.range k).map NN ++ [m] := by
  rw [List.range_succ, List.map_append]
  congr 1
  · apply List.map_congr_left
    intro j hj
    have := List.mem_range.1 hj
    simp; omega
  · simp
set_option maxRecDepth 20000 in
set_option maxHeartbeats 4000000 in
/-- Member.messageGaps -/
theorem messageGaps_any (c : Pm) (mb hb lb fb S0 cap g : Nat) (AB GB : Nat → Nat) (es : Array MapEntry) (ck : Nat) (A : List Ack1) (C : List Value) (f : Tri → Tri) (now si fr fi id q : Int) (oa : Option Addr) (oc : Nat) (l : List Int) (w : World)
    (hL : Lk w mb hb lb fb S0 cap AB GB es ck A C) (hH : HeldAs es ck hb c.held f) (hn : 0 < A.length) (hn2 : A.length ≤ 4096) (hJ : ∀ a ∈ A, -32768 ≤ a.J ∧ a.J ≤ 32767) (hnl : ∀ a ∈ A, a.nl ≤ a.refs.length ∧ a.refs.length ≤ 4096)
    (hT : 1 ≤ c.T ∧ c.T ≤ 1000) (hr : 0 ≤ c.r ∧ c.r ≤ 7) (hP : 1 ≤ c.P ∧ c.P ≤ 1000) (ht : -2147483648 ≤ now ∧ now ≤ 2147483647) (hM : ∀ W : World, Below S0 w W → Mem W mb g c.T c.r c.P 0 si fr fi oa l.length oc l)
    (hc0 : w.cell? ⟨mb, 0, none⟩ = some (.int .i64 id)) (hc30 : w.cell? ⟨mb, 30, none⟩ = some (.int .i64 now)) (hcl : c.closed = slotOf c.T (now - (Rw c.r c.P + Rw c.r c.P)) - 1)
    (hAf : ∀ W : World, Below S0 w W → Calls Yba.prog 12 #[.pointer (some ⟨mb, 0, none⟩)] W fun e w' => e = .returned (.int .i64 c.after) ∧ Below W.heap.size W w')
    (hq : Ix l id q) (hff : ∀ J, c.ff J = firstOf l.length fr fi J q) (b1 : -1000000 ≤ fr ∧ fr ≤ 1000000) (b2 : -1000000 ≤ fi ∧ fi ≤ 1000000) (hl : l.length ≤ 1000000) (hfo : w.ownsRow fb 107 7 (.slice (some ⟨fb, 0, none⟩) 1 1) 1 preCells) :
    Calls Yba.prog 8 #[.pointer (some ⟨mb, 0, none⟩), .int .i64 c.until_, .slice (some ⟨fb, 0, none⟩) 1 1] w fun e w' => ∃ (GV : List (Gap1 × Value)) (K : List Nat) (NN : Nat → Nat) (fg fc : Nat) (C' : List Value) (wl : World),
      e = .returned (.slice (some ⟨fg, 0, none⟩) (1 + GV.length) fc) ∧ gaps c 0 A = (GV.map (·.1), K, (List.range A.length).map NN) ∧ Lp w wl lb fb A.length cap AB NN K GV fg fc A.length C C' ∧ w' = wl.setCell ⟨mb, 42, none⟩ (.slice (some ⟨lb, 0, none⟩) K.length cap) := by
  have HL : Hid (Lk w mb hb lb fb S0 cap AB GB es ck A C) := hL
  have HH : Hid (HeldAs es ck hb c.held f) := hH
  have HJ : Hid (∀ a ∈ A, -32768 ≤ a.J ∧ a.J ≤ 32767) := hJ
  have HN : Hid (∀ a ∈ A, a.nl ≤ a.refs.length ∧ a.refs.length ≤ 4096) := hnl
  have HM : Hid (∀ W : World, Below S0 w W → Mem W mb g c.T c.r c.P 0 si fr fi oa l.length oc l) := hM
  have HAF : Hid (∀ W : World, Below S0 w W → Calls Yba.prog 12 #[.pointer (some ⟨mb, 0, none⟩)] W fun e w' => e = .returned (.int .i64 c.after) ∧ Below W.heap.size W w') := hAf
  have HF : Hid (∀ J, c.ff J = firstOf l.length fr fi J q) := hff
  have HFO : Hid (w.ownsRow fb 107 7 (.slice (some ⟨fb, 0, none⟩) 1 1) 1 preCells) := hfo
  have HCL : Hid (c.closed = slotOf c.T (now - (Rw c.r c.P + Rw c.r c.P)) - 1) := hcl
  clear hL hH hJ hnl hM hAf hff hfo hcl
  have m42 := HL.out.m42
  have hmb : mb < S0 := HL.out.pm
  have hS : S0 ≤ w.heap.size := by have := HL.out.ps; have := HL.out.lf; have := HL.out.pf; omega
  have hne : ¬ (A.length = 0) := by omega
  have hmw : mb < w.heap.size := by omega
  have hM0 := HM.out w (Below.refl _ _)
  have n1 := hM0.m1
  have n2 := hM0.m2
  have n3 := hM0.m3
  have n4 := hM0.m4
  clear hM0
  have hmf : ∀ (fn : Fn) (first cap : Array Value) (w : World), (Instr.makeFunc fn first cap).run Yba.prog w = .ok (.func fn first cap) w := fun _ _ _ _ => rfl
  go_enter Yba.func8, Yba.ntmps8
  go_wp2_with fail
  go_region_held3 (fun w' => w'.cell? ⟨mb, 1, none⟩ = some (.int .i64 c.T) ∧ w'.cell? ⟨mb, 2, none⟩ = some (.int .i64 c.r) ∧ w'.cell? ⟨mb, 3, none⟩ = some (.int .i64 c.P) ∧ w'.cell? ⟨mb, 4, none⟩ = some (.int .i64 0) ∧ w'.cell? ⟨mb, 30, none⟩ = some (.int .i64 now)) (go_keep)
    (first | (go_at_call 10; refine (lastClosed_any c.T c.r c.P now ht hT hr hP _).mono ?_; rintro e w1 ⟨rfl, hb1⟩; have t1 := (hb1.cell (p := ⟨mb, 1, none⟩) hmw).trans n1; have t2 := (hb1.cell (p := ⟨mb, 2, none⟩) hmw).trans n2; have t3 := (hb1.cell (p := ⟨mb, 3, none⟩) hmw).trans n3; have t4 := (hb1.cell (p := ⟨mb, 4, none⟩) hmw).trans n4; have t5 := (hb1.cell (p := ⟨mb, 30, none⟩) hmw).trans hc30; have t6 := (hb1.cell (p := ⟨mb, 42, none⟩) hmw).trans m42))
  go_wp2_with fail
  have hbw1 : Below S0 w w1 := (Below.refl _ _).drew.trans (hb1.mono hS)
  refine (HAF.out w1 hbw1).mono ?_
  rintro e w2 ⟨rfl, hb2⟩
  rw [← HCL.out]
  have hbw2 : Below w.heap.size w w2 := ((Below.refl _ _).drew.trans hb1).trans (hb2.mono (by have := hb1.size; exact this))
  have t42 : w2.cell? ⟨mb, 42, none⟩ = some (.slice (some ⟨lb, 0, none⟩) A.length cap) := (hbw2.cell (p := ⟨mb, 42, none⟩) hmw).trans m42
  have hLp0 : Hid (Lp w w2 lb fb A.length cap AB (fun j => (A.getD j ⟨0, [], 0⟩).nl) [] [] fb 1 0 C C) := by
    have hx := HL.out
    refine ⟨hbw2.os, hbw2.tape, hbw2.output, hbw2.size, fun b h1 _ _ _ => hbw2.block b h1, fun j hj => ?_, (hbw2.block lb (by have := hx.lf; have := hx.pf; omega)).trans hx.blk, hx.cl, fun _ _ _ => rfl, fun i j hij => by simp at hij, own_below HFO.out hbw2, Or.inl rfl, by simp, by simp⟩
    have e15 := hx.a15 j _ (List.getElem?_eq_getElem hj)
    rw [hbw2.block _ (by have := hx.pa j hj; have := hx.lf; have := hx.pf; omega)]
    have : (A.getD j ⟨0, [], 0⟩).nl = A[j].nl := by simp [List.getD, List.getElem?_eq_getElem hj]
    simp only [this]
    rw [setCell_self e15]
  clear t1 t2 t3 t4 t5 t6 n1 n2 n3 n4 m42
  go_upto_block 0 with fail
  go_cut [2, 9] from 47 to 131 (fun fv lv wx => ∃ (GV : List (Gap1 × Value)) (K : List Nat) (NN : Nat → Nat) (fg fc : Nat) (C' : List Value), fv = .slice (some ⟨fg, 0, none⟩) (1 + GV.length) fc ∧ lv = .slice (some ⟨lb, 0, none⟩) K.length cap ∧ Hid (gaps c 0 A = (GV.map (·.1), K, (List.range A.length).map NN)) ∧ Hid (Lp w wx lb fb A.length cap AB NN K GV fg fc A.length C C'))
  case rest =>
    obtain ⟨GV, K, NN, fg, fc, C', rfl, rfl, HG, HP⟩ := hcut
    have hx := HL.out
    have hlow := HP.out.low hx.ps hx.lf hx.pf (fun j hj => (hx.pa j hj).1)
    have r42 : wc.cell? ⟨mb, 42, none⟩ = some (.slice (some ⟨lb, 0, none⟩) A.length cap) := (hlow.cell (p := ⟨mb, 42, none⟩) hmb).trans hx.m42
    have z42 : wc.frozen? ⟨mb, 42, none⟩ = false := (hlow.frozen (p := ⟨mb, 42, none⟩) hmb).trans hx.f42
    clear hx hlow
    go_wp2
    go_ret
    exact ⟨GV, K, NN, fg, fc, C', wc, rfl, HG.out, HP.out, rfl⟩
  case first =>
    go_wp2_with fail
    go_loopw [2, 9, 47] (fun fv lv iv wr => ∃ (k : Nat) (GV : List (Gap1 × Value)) (K : List Nat) (NN : Nat → Nat) (fg fc : Nat) (C' : List Value), k ≤ A.length ∧ GV.length ≤ k ∧ iv = .int .i64 k ∧ fv = .slice (some ⟨fg, 0, none⟩) (1 + GV.length) fc ∧ lv = .slice (some ⟨lb, 0, none⟩) K.length cap ∧
      Hid (Sofar c A k (GV.map (·.1)) K ((List.range k).map NN)) ∧ Hid (∀ (j : Nat) (a : Ack1), k ≤ j → A[j]? = some a → NN j = a.nl) ∧ Hid (Lp w wr lb fb A.length cap AB NN K GV fg fc k C C')) (fun _ _ iv _ => A.length - (intOf iv).toNat)
    case atStart => exact ⟨0, [], [], _, fb, 1, C, by omega, Nat.le_refl _, rfl, rfl, rfl, Sofar.zero c A, fun j a _ ha => by simp [List.getD, ha], hLp0⟩
    case round =>
      obtain ⟨k, GV, K, NN, fg, fc, C', hk, hgvl, rfl, rfl, rfl, HS, HNN, HP⟩ := hrel
      by_cases hkn : k < A.length
      · obtain ⟨a, ha⟩ : ∃ a, A[k]? = some a := ⟨_, List.getElem?_eq_getElem hkn⟩
        have hx := HL.out
        have hlow := HP.out.low hx.ps hx.lf hx.pf (fun j hj => (hx.pa j hj).1)
        have hJa := HJ.out a (List.mem_of_getElem? ha)
        have hpk := hx.pa k hkn
        have hAk := HP.out.ack k hkn
        have cak : ∀ o, o ≠ 15 → wr.cell? ⟨AB k, o, none⟩ = w.cell? ⟨AB k, o, none⟩ := fun o ho => by
          rw [World.cell?_of_block (a := ⟨AB k, o, none⟩) hAk, World.cell?_setCell_other (h := by intro e; injection e with _ e2; omega)]
        have e0 : wr.cell? ⟨AB k, 0, none⟩ = some (.int .i64 a.J) := (cak 0 (by omega)).trans (hx.a0 k a ha)
        have ep : wr.cell? ⟨lb, k, none⟩ = some (.pointer (some ⟨AB k, 0, none⟩)) := by
          rw [cell_of_row wr lb k _ _ _ HP.out.blk]
          simpa using (HP.out.cr k (Nat.le_refl _) hkn).trans (hx.ptr k hkn)
        have hMr := HM.out wr hlow
        have n1 := hMr.m1
        have n2 := hMr.m2
        have n3 := hMr.m3
        have n4 := hMr.m4
        have hrp : wr.rangeAt mb 1 [.int .i64 c.T, .int .i64 c.r, .int .i64 c.P, .int .i64 0] := fun j v hj => by
          match j, hj with
          | 0, hj => simp at hj; subst hj; exact n1
          | 1, hj => simp at hj; subst hj; exact n2
          | 2, hj => simp at hj; subst hj; exact n3
          | 3, hj => simp at hj; subst hj; exact n4
        have HRP : Hid (wr.rangeAt mb 1 [.int .i64 c.T, .int .i64 c.r, .int .i64 c.P, .int .i64 0]) := hrp
        clear hrp
        have hsz := HP.out.size
        have hak : AB k < wr.heap.size := by have := hx.lf; have := hx.pf; omega
        have hmr : mb < wr.heap.size := by omega
        have HLOW : Hid (Below S0 w wr) := hlow
        have HCAK : Hid (∀ o, o ≠ 15 → wr.cell? ⟨AB k, o, none⟩ = w.cell? ⟨AB k, o, none⟩) := cak
        clear hlow cak hMr hAk hx
        go_wp2_with fail
        go_cut [12] from 52 to 61 (fun s wx => ∃ wb, s = .pointer (some ⟨wb, 0, none⟩) ∧ wr.heap.size ≤ wb ∧ Hid (wx.cell? ⟨wb, 0, none⟩ = some (.int .i64 (c.opn a.J))) ∧ Hid (Below wr.heap.size wr wx))
        case first =>
          refine wp_region_held_drew (S := fun W => Below wr.heap.size wr W) (by kernel_rfl) (by exact (Below.refl _ _).drew) (fun hHeld => ?_)
          refine take_val (i := 0) (dst := some 52) (v := .pointer (some ⟨mb, 0, none⟩)) rfl rfl (by kernel_rfl) (by kernel_rfl) (by kernel_rfl) (fun _ _ _ h => h) (yields_move (by rfl) _ rfl rfl) hHeld ?_
          simp only [Act.put, List.setIfInBounds_toArray, List.set_cons_zero, List.set_cons_succ]
          refine take_val (i := 1) (dst := some 53) (v := .pointer (some ⟨mb, 0, none⟩)) rfl rfl (by kernel_rfl) (by kernel_rfl) (by kernel_rfl) (fun _ _ _ h => h) (Or.inl ⟨by rfl, fun w' hSw => by (try dsimp only at hSw); clear hSw; go_simp⟩) hHeld ?_
          simp only [Act.put, List.setIfInBounds_toArray, List.set_cons_zero, List.set_cons_succ]
          refine take_val (i := 2) (dst := some 54) (v := .pointer (some ⟨mb, 1, none⟩)) rfl rfl (by kernel_rfl) (by kernel_rfl) (by kernel_rfl) (fun _ _ _ h => h) (Or.inl ⟨by rfl, fun w' hSw => by (try dsimp only at hSw); clear hSw; go_simp⟩) hHeld ?_
          simp only [Act.put, List.setIfInBounds_toArray, List.set_cons_zero, List.set_cons_succ]
          refine take_val (i := 3) (dst := some 55) (v := .agg #[.int .i64 c.T, .int .i64 c.r, .int .i64 c.P, .int .i64 0]) rfl rfl (by kernel_rfl) (by kernel_rfl) (by kernel_rfl) (fun _ _ _ h => h) (yieldsIf_load_mid (by rfl) 34 (.tmp 54) rfl mb 1 rfl [.int .i64 c.T, .int .i64 c.r, .int .i64 c.P, .int .i64 0] _ (fun _ h => rangeAt_below h hmr HRP.out) Yba.underlying34 rfl (by kernel_rfl)) hHeld ?_
          simp only [Act.put, List.setIfInBounds_toArray, List.set_cons_zero, List.set_cons_succ]
          refine take_val (i := 4) (dst := some 56) (v := .pointer (some ⟨AB k, 0, none⟩)) rfl rfl (by kernel_rfl) (by kernel_rfl) (by kernel_rfl) (fun _ _ _ h => h) (yields_move (by rfl) _ rfl rfl) hHeld ?_
          simp only [Act.put, List.setIfInBounds_toArray, List.set_cons_zero, List.set_cons_succ]
          refine take_val (i := 5) (dst := some 57) (v := .pointer (some ⟨AB k, 0, none⟩)) rfl rfl (by kernel_rfl) (by kernel_rfl) (by kernel_rfl) (fun _ _ _ h => h) (Or.inl ⟨by rfl, fun w' hSw => by (try dsimp only at hSw); clear hSw; go_simp⟩) hHeld ?_
          simp only [Act.put, List.setIfInBounds_toArray, List.set_cons_zero, List.set_cons_succ]
          refine take_val (i := 6) (dst := some 58) (v := .pointer (some ⟨AB k, 0, none⟩)) rfl rfl (by kernel_rfl) (by kernel_rfl) (by kernel_rfl) (fun _ _ _ h => h) (Or.inl ⟨by rfl, fun w' hSw => by (try dsimp only at hSw); clear hSw; go_simp⟩) hHeld ?_
          simp only [Act.put, List.setIfInBounds_toArray, List.set_cons_zero, List.set_cons_succ]
          refine take_val (i := 7) (dst := some 59) (v := .pointer (some ⟨AB k, 0, none⟩)) rfl rfl (by kernel_rfl) (by kernel_rfl) (by kernel_rfl) (fun _ _ _ h => h) (Or.inl ⟨by rfl, fun w' hSw => by (try dsimp only at hSw); clear hSw; go_simp⟩) hHeld ?_
          simp only [Act.put, List.setIfInBounds_toArray, List.set_cons_zero, List.set_cons_succ]
          refine take_val (i := 8) (dst := some 60) (v := .int .i64 a.J) rfl rfl (by kernel_rfl) (by kernel_rfl) (by kernel_rfl) (fun _ _ _ h => h) (Or.inl ⟨by rfl, fun w' hSw => by have hj := (Below.cell hSw (p := ⟨AB k, 0, none⟩) hak).trans e0; clear hSw; go_simp⟩) hHeld ?_
          simp only [Act.put, List.setIfInBounds_toArray, List.set_cons_zero, List.set_cons_succ]
          refine gen_any (fun V => Below wr.heap.size wr V) hHeld ?_
          clear hHeld
          rintro W0 hHeld
          refine wpAnyH_ready (rs := [9, 10]) (by kernel_rfl) (by simp) ?_
          refine AllReadyH.cons rfl (fun KK hK => ?_) ?_
          · go_simp
            refine (messageWindow_any c.T c.r c.P a.J hJa hT hr hP _).mono ?_
            rintro e w3 ⟨rfl, hb3⟩
            have hB3 := hHeld.trans (hb3.mono hHeld.size)
            refine hK.out _ _ hB3 (fun _ => ?_)
            clear hK KK
            try simp only [Act.put, List.setIfInBounds_toArray, List.set_cons_zero, List.set_cons_succ]
            refine wpAnyH_ready (rs := [10]) (by kernel_rfl) (by simp) ?_
            refine AllReadyH.cons rfl (fun KK hK => ?_) AllReadyH.nil
            go_simp
            refine hK.out _ _ (hB3.alloc hB3.size _) (fun _ => ?_)
            clear hK KK
            try simp only [Act.put, List.setIfInBounds_toArray, List.set_cons_zero, List.set_cons_succ]
            refine gen_any (fun V => Below wr.heap.size wr V ∧ V.there w3.heap.size 0 2) ⟨hB3.alloc hB3.size _, there_new (by decide)⟩ ?_
            rintro V ⟨hV, hth⟩
            refine wpAnyH_ready (rs := [11]) (by kernel_rfl) (by simp) ?_
            refine AllReadyH.cons rfl (fun KK hK => ?_) AllReadyH.nil
            refine come_store (by rfl) rfl 119 _ _ rfl (w3.heap.size) 0 [.int .i64 (a.J * c.T + Rw c.r c.P), .int .i64 (a.J * c.T + Rw c.r c.P + Rw c.r c.P)] rfl rfl hth (by kernel_rfl) (by simp [Value.oneCell']) ?_
            refine hK.out _ _ (below_setCells hV hB3.size _ _) (fun _ => ?_)
            clear hK KK
            try simp only [Act.put, List.setIfInBounds_toArray, List.set_cons_zero, List.set_cons_succ]
            refine wpAnyH_done (by kernel_rfl) ?_ _
            go_wp2_with fail
            go_meet
            case rel => exact ⟨w3.heap.size, rfl, hB3.size, (World.rangeAt_setCells_same _ _ _ _ hth 0 _ rfl), below_setCells hV hB3.size _ _⟩
          refine AllReadyH.cons rfl (fun KK hK => ?_) AllReadyH.nil
          go_simp
          refine hK.out _ _ (hHeld.alloc hHeld.size _) (fun _ => ?_)
          clear hK KK
          try simp only [Act.put, List.setIfInBounds_toArray, List.set_cons_zero, List.set_cons_succ]
          refine gen_any (fun V => Below wr.heap.size wr V ∧ V.there W0.heap.size 0 2 ∧ W0.heap.size < V.heap.size) ⟨hHeld.alloc hHeld.size _, there_new (by decide), by simp⟩ ?_
          rintro V ⟨hV, hth, hVl⟩
          refine wpAnyH_ready (rs := [9]) (by kernel_rfl) (by simp) ?_
          refine AllReadyH.cons rfl (fun KK hK => ?_) AllReadyH.nil
          go_simp
          refine (messageWindow_any c.T c.r c.P a.J hJa hT hr hP _).mono ?_
          rintro e w3 ⟨rfl, hb3⟩
          have hB3 := hV.trans (hb3.mono hV.size)
          have hth3 := there_below hb3 hVl hth
          refine hK.out _ _ hB3 (fun _ => ?_)
          clear hK KK
          try simp only [Act.put, List.setIfInBounds_toArray, List.set_cons_zero, List.set_cons_succ]
          refine wpAnyH_ready (rs := [11]) (by kernel_rfl) (by simp) ?_
          refine AllReadyH.cons rfl (fun KK hK => ?_) AllReadyH.nil
          refine come_store (by rfl) rfl 119 _ _ rfl (W0.heap.size) 0 [.int .i64 (a.J * c.T + Rw c.r c.P), .int .i64 (a.J * c.T + Rw c.r c.P + Rw c.r c.P)] rfl rfl hth3 (by kernel_rfl) (by simp [Value.oneCell']) ?_
          refine hK.out _ _ (below_setCells hB3 hHeld.size _ _) (fun _ => ?_)
          clear hK KK
          try simp only [Act.put, List.setIfInBounds_toArray, List.set_cons_zero, List.set_cons_succ]
          refine wpAnyH_done (by kernel_rfl) ?_ _
          go_wp2_with fail
          go_meet
          case rel => exact ⟨W0.heap.size, rfl, hHeld.size, (World.rangeAt_setCells_same _ _ _ _ hth3 0 _ rfl), below_setCells hB3 hHeld.size _ _⟩
        case rest =>
          obtain ⟨wb, rfl, hwbr, HWB, HBX⟩ := hcut
          have c0 := HWB.out
          have hwl : wb < wc.heap.size := World.block_lt_of_cell? wc _ c0
          have hsc : wr.heap.size ≤ wc.heap.size := HBX.out.size
          have q1 := (HBX.out.cell (p := ⟨mb, 1, none⟩) hmr).trans n1
          have q2 := (HBX.out.cell (p := ⟨mb, 2, none⟩) hmr).trans n2
          have q3 := (HBX.out.cell (p := ⟨mb, 3, none⟩) hmr).trans n3
          have q4 := (HBX.out.cell (p := ⟨mb, 4, none⟩) hmr).trans n4
          have ho := opn_bd c hT hr hP hJa
          go_wp2_with fail
          go_region_held3 (fun w' => w'.cell? ⟨mb, 1, none⟩ = some (.int .i64 c.T) ∧ w'.cell? ⟨mb, 2, none⟩ = some (.int .i64 c.r) ∧ w'.cell? ⟨mb, 3, none⟩ = some (.int .i64 c.P) ∧ w'.cell? ⟨mb, 4, none⟩ = some (.int .i64 0) ∧ w'.cell? ⟨wb, 0, none⟩ = some (.int .i64 (c.opn a.J))) (go_keep)
            (first | (go_at_call 13; refine (askTime_any c.T c.r c.P (c.opn a.J) ho hP _).mono ?_; rintro e w4 ⟨rfl, hb4⟩; have t1 := (hb4.cell (p := ⟨mb, 1, none⟩) (Nat.lt_of_lt_of_le hmr hsc)).trans q1; have t2 := (hb4.cell (p := ⟨mb, 2, none⟩) (Nat.lt_of_lt_of_le hmr hsc)).trans q2; have t3 := (hb4.cell (p := ⟨mb, 3, none⟩) (Nat.lt_of_lt_of_le hmr hsc)).trans q3; have t4 := (hb4.cell (p := ⟨mb, 4, none⟩) (Nat.lt_of_lt_of_le hmr hsc)).trans q4; have t5 := (hb4.cell (p := ⟨wb, 0, none⟩) hwl).trans c0))
          have hx := HL.out
          have B4 : Below wr.heap.size wr w4 := HBX.out.trans ((Below.refl _ _).drew.trans (hb4.mono hsc))
          have hlw : lb < w.heap.size := by have := hx.lf; have := hx.pf; omega
          have P4 : Hid (Lp w w4 lb fb A.length cap AB NN K GV fg fc k C C') := HP.out.below B4 hlw (fun j hj => by have := hx.pa j hj; omega)
          have hlow4 := P4.out.low hx.ps hx.lf hx.pf (fun j hj => (hx.pa j hj).1)
          have r42 : w4.cell? ⟨mb, 42, none⟩ = some (.slice (some ⟨lb, 0, none⟩) A.length cap) := (hlow4.cell (p := ⟨mb, 42, none⟩) hmb).trans hx.m42
          have e4 : w4.cell? ⟨AB k, 0, none⟩ = some (.int .i64 a.J) := (B4.cell (p := ⟨AB k, 0, none⟩) hak).trans e0
          have hKk : K.length ≤ k := HS.out.2.2.1
          have hnc : A.length ≤ cap := hx.nc
          have hck : ¬ (cap = k) := by omega
          have j0 : (0 : Int) ≤ (k : Int) := by omega
          have j1 : (k : Int) ≤ (A.length : Int) := by omega
          have hNk : NN k = a.nl := HNN.out k a (Nat.le_refl _) ha
          have HLOW4 : Hid (Below S0 w w4) := hlow4
          have hlf : lb < fb := hx.lf
          have hpf : fb < w.heap.size := hx.pf
          have HPA : Hid (∀ j, j < A.length → AB j < lb) := fun j hj => (hx.pa j hj).2
          clear hx hlow4 B4 t1 t2 t3 t4 q1 q2 q3 q4 n1 n2 n3 n4 c0
          by_cases hstop : c.until_ < c.opn a.J + c.P / 2
          · have hd : decide (c.until_ < c.opn a.J + c.P / 2) = true := decide_eq_true hstop
            have HG : Hid (gaps c 0 A = (GV.map (·.1), K ++ List.range' k (A.length - k), (List.range A.length).map NN)) := by
              show _ = _
              rw [HS.out.stop ha hstop]
              rw [nn_all HNN.out hk]
            have hnews : ∀ j u, ((C'.drop k).take (A.length - k))[j]? = some u → w4.cell? ((⟨lb, k, none⟩ : Addr).add j) = some u := fun j u hu => by
              rw [Addr.add_mid, cell_of_row w4 lb _ _ _ _ P4.out.blk]
              rw [List.getElem?_take] at hu
              split at hu
              · rw [List.getElem?_drop] at hu; simpa using hu
              · cases hu
            have hone : ∀ u ∈ (C'.drop k).take (A.length - k), u.oneCell' = true := fun u hu => by
              obtain ⟨j, hj⟩ := List.getElem?_of_mem hu
              rw [List.getElem?_take] at hj
              split at hj
              · rw [List.getElem?_drop, P4.out.cr _ (by omega) (by omega), HL.out.ptr _ (by omega)] at hj
                obtain rfl := Option.some.inj hj; rfl
              · cases hj
            have hnn : ((C'.drop k).take (A.length - k)).length = A.length - k := by rw [List.length_take, List.length_drop, P4.out.cl]; omega
            have HAP : Hid (∀ ty cc, (Builtin.append_ #[60, 60] ty #[.slice (some ⟨lb, 0, none⟩) K.length cap, .slice (some ⟨lb, k, none⟩) (A.length - k) cc]).run Yba.prog w4 = .ok (.slice (some ⟨lb, 0, none⟩) (K.length + (A.length - k)) cap) (w4.setRow lb (C'.take K.length ++ (C'.drop k).take (A.length - k) ++ C'.drop (K.length + (A.length - k))).toArray)) := fun ty cc =>
              append_lk P4.out.blk P4.out.cl hnn hnews hone (by omega) ty
            have hsr := setRow_facts (D := C'.take K.length ++ (C'.drop k).take (A.length - k) ++ C'.drop (K.length + (A.length - k))) P4.out.blk
            have PR : Hid (Lp w (w4.setRow lb (C'.take K.length ++ (C'.drop k).take (A.length - k) ++ C'.drop (K.length + (A.length - k))).toArray) lb fb A.length cap AB NN (K ++ List.range' k (A.length - k)) GV fg fc A.length C (C'.take K.length ++ (C'.drop k).take (A.length - k) ++ C'.drop (K.length + (A.length - k)))) :=
              P4.out.rest hsr.1 hsr.2.1 _ hsr.2.2 rfl hKk hk hnc hlw hlf (fun j hj => by have := HPA.out j hj; omega) HL.out.ptr
            have hKl : (K ++ List.range' k (A.length - k)).length = K.length + (A.length - k) := by simp
            clear hnews hone hnn hsr
            generalize hC2 : C'.take K.length ++ (C'.drop k).take (A.length - k) ++ C'.drop (K.length + (A.length - k)) = C2 at HAP PR
            clear hC2
            go_wp2_with (at_builtin; refine wpList_append_run rfl _ _ 60 rfl _ _ _ _ rfl rfl (fun ty => HAP.out ty _) ?_)
            go_meet
            case rel => exact ⟨GV, _, NN, fg, fc, _, rfl, by rw [hKl], HG, PR⟩
          · have hd : decide (c.until_ < c.opn a.J + c.P / 2) = false := decide_eq_false hstop
            have HST : Hid (¬ c.until_ < c.opn a.J + c.P / 2) := hstop
            by_cases hcl : a.J ≤ c.closed
            · have hdc : decide (a.J ≤ c.closed) = true := decide_eq_true hcl
              have HS2 := HS.out.kept ha hstop hcl
              rw [← hNk, ← nn_succ NN k _ rfl] at HS2
              have HS2' : Hid (Sofar c A (k + 1) (GV.map (·.1)) (K ++ [k]) ((List.range (k + 1)).map NN)) := HS2
              obtain ⟨C2, wp, hap, hPR, _, _, _⟩ := P4.out.push1 hKk (by omega) hlw hlf HPA.out
              have HAP : Hid (∀ ty cc, (Builtin.append_ #[60, 60] ty #[.slice (some ⟨lb, 0, none⟩) K.length cap, .slice (some ⟨w4.heap.size, 0, none⟩) 1 cc]).run Yba.prog (w4.alloc (.cells #[.pointer (some ⟨AB k, 0, none⟩)] 92)) = .ok (.slice (some ⟨lb, 0, none⟩) (K.length + 1) cap) wp) := hap
              have PR : Hid (Lp w wp lb fb A.length cap AB NN (K ++ [k]) GV fg fc (k + 1) C C2) := hPR
              have hKl : (K ++ [k]).length = K.length + 1 := by simp
              clear hap hPR HS2
              go_wp2_with (at_builtin; refine wpList_append_run rfl _ _ 60 rfl _ _ _ _ rfl rfl (fun ty => HAP.out ty _) ?_)
              go_roundw
              case rel => exact ⟨k + 1, GV, K ++ [k], NN, fg, fc, C2, by omega, by omega, by go_num, rfl, by rw [hKl], HS2', fun j a h => HNN.out j a (by omega), PR⟩
              case measure => simp [intOf]; omega
            · have hdc : decide (a.J ≤ c.closed) = false := decide_eq_false hcl
              have HCL2 : Hid (¬ a.J ≤ c.closed) := hcl
              have K4 : Hid (Ak w4 mb hb (AB k) (GB k) es ck a.refs a.nl) := P4.out.ak HL.out ha hNk
              have hna := HN.out a (List.mem_of_getElem? ha)
              have hxa := HL.out.pa k hkn
              have hxh := HL.out.ph
              have HMS := missing_any mb hb (AB k) (GB k) es ck c.held a.refs f a.nl w4 K4.out HH.out (by omega) (HL.out.ne k k hkn hkn) (by omega) hna.1 (by omega)
              go_wp2_with fail
              refine HMS.mono ?_
              rintro e w5 ⟨v', rfl, hov, hb5⟩
              have P5 : Hid (Lp w w5 lb fb A.length cap AB (fun j => if j = k then adv c.held a.refs a.nl else NN j) K GV fg fc k C C') := P4.out.count hkn hb5 hlw hlf hpf HPA.out (fun j hj hne => HL.out.inj j k hj hkn hne)
              have HNN5 : Hid (∀ (j : Nat) (b : Ack1), k + 1 ≤ j → A[j]? = some b → (if j = k then adv c.held a.refs a.nl else NN j) = b.nl) := fun j b hj hb => by
                rw [if_neg (by omega)]; exact HNN.out j b (by omega) hb
              obtain ⟨a5, c5, hv5⟩ : ∃ a5 c5, v' = .slice a5 (lackedFrom c.held a.refs (adv c.held a.refs a.nl)).length c5 := by
                rcases hov.2 with ⟨e, h0⟩ | ⟨g5, cp, cur, e, _⟩
                · exact ⟨none, 0, by rw [e, h0]⟩
                · exact ⟨_, _, e⟩
              subst hv5
              have HOV : Hid (w5.ownsRow w4.heap.size 86 3 (.slice a5 (lackedFrom c.held a.refs (adv c.held a.refs a.nl)).length c5) (lackedFrom c.held a.refs (adv c.held a.refs a.nl)).length (tcs (lackedFrom c.held a.refs (adv c.held a.refs a.nl)))) := hov
              have hs45 : w4.heap.size ≤ w5.heap.size := by have := hb5.size; simpa using this
              have e5 : w5.cell? ⟨AB k, 0, none⟩ = some (.int .i64 a.J) := by
                rw [hb5.cell (p := ⟨AB k, 0, none⟩) (by have := P4.out.size; show AB k < w4.heap.size; omega), World.cell?_setCell_other (h := by intro e; injection e with _ e2; omega)]; exact e4
              have hwb4 : wb < w4.heap.size := World.block_lt_of_cell? w4 _ t5
              have e5b : w5.cell? ⟨wb, 0, none⟩ = some (.int .i64 (c.opn a.J)) := by
                rw [hb5.cell (p := ⟨wb, 0, none⟩) hwb4, World.cell?_setCell_other (h := by intro e; injection e with e2 _; omega)]; exact t5
              clear HMS hov hb5
              by_cases hemp : lackedFrom c.held a.refs (adv c.held a.refs a.nl) = []
              · have HS2 : Hid (Sofar c A (k + 1) (GV.map (·.1)) K ((List.range (k + 1)).map (fun j => if j = k then adv c.held a.refs a.nl else NN j))) := by
                  show Sofar _ _ _ _ _ _
                  rw [nn_set]; exact HS.out.none ha (Int.not_lt.2 HST.out) (Int.not_le.2 HCL2.out) hemp
                have hl0 : (lackedFrom c.held a.refs (adv c.held a.refs a.nl)).length = 0 := by rw [hemp]; rfl
                rw [hl0]
                clear hemp hl0
                go_wp2_with fail
                go_roundw
                case rel => exact ⟨k + 1, GV, K, _, fg, fc, C', by omega, by omega, by go_num, rfl, rfl, HS2, HNN5, P5.out.next⟩
                case measure => simp [intOf]; omega
              · have HS2 : Hid (Sofar c A (k + 1) (GV.map (·.1) ++ (if c.after < a.J then [⟨c.opn a.J, c.ff a.J, a.J, lackedFrom c.held a.refs (adv c.held a.refs a.nl)⟩] else [])) (K ++ [k]) ((List.range (k + 1)).map (fun j => if j = k then adv c.held a.refs a.nl else NN j))) := by
                  show Sofar _ _ _ _ _ _
                  rw [nn_set]; exact HS.out.more ha (Int.not_lt.2 HST.out) (Int.not_le.2 HCL2.out) hemp
                have hl0 : ¬ (lackedFrom c.held a.refs (adv c.held a.refs a.nl)).length = 0 := fun e => hemp (List.eq_nil_of_length_eq_zero e)
                obtain ⟨C2, wp, hap, hPR, _, hkw, hsw⟩ := P5.out.push1 hKk (by omega) hlw hlf HPA.out
                have HAP : Hid (∀ ty cc, (Builtin.append_ #[60, 60] ty #[.slice (some ⟨lb, 0, none⟩) K.length cap, .slice (some ⟨w5.heap.size, 0, none⟩) 1 cc]).run Yba.prog (w5.alloc (.cells #[.pointer (some ⟨AB k, 0, none⟩)] 92)) = .ok (.slice (some ⟨lb, 0, none⟩) (K.length + 1) cap) wp) := hap
                have PR : Hid (Lp w wp lb fb A.length cap AB (fun j => if j = k then adv c.held a.refs a.nl else NN j) (K ++ [k]) GV fg fc (k + 1) C C2) := hPR
                have HKW : Hid (∀ b, b < w5.heap.size → b ≠ lb → wp.heap[b]? = w5.heap[b]?) := hkw
                have hKl : (K ++ [k]).length = K.length + 1 := by simp
                have hs5 : w.heap.size ≤ w5.heap.size := P5.out.size
                have e6 : wp.cell? ⟨AB k, 0, none⟩ = some (.int .i64 a.J) := (World.cell?_of_block (a := ⟨AB k, 0, none⟩) (hkw (AB k) (by omega) (by omega))).trans e5
                have e6b : wp.cell? ⟨wb, 0, none⟩ = some (.int .i64 (c.opn a.J)) := (World.cell?_of_block (a := ⟨wb, 0, none⟩) (hkw wb (by omega) (by have := HPA.out k hkn; have := HP.out.size; omega))).trans e5b
                have hwp : wb < wp.heap.size := World.block_lt_of_cell? wp _ e6b
                have HLP : Hid (Below S0 w wp) := hPR.low HL.out.ps hlf hpf (fun j hj => (HL.out.pa j hj).1)
                have hfgr : fg < wr.heap.size := (HP.out.fo.lt fg rfl).2
                have hswp : w.heap.size ≤ wp.heap.size := hPR.size
                have HSRW : Hid (fg < wr.heap.size ∧ wr.heap.size ≤ w4.heap.size) := ⟨hfgr, Nat.le_trans hsc hb4.size⟩
                have HO6 : Hid (wp.ownsRow w.heap.size 86 3 (.slice a5 (lackedFrom c.held a.refs (adv c.held a.refs a.nl)).length c5) (lackedFrom c.held a.refs (adv c.held a.refs a.nl)).length (tcs (lackedFrom c.held a.refs (adv c.held a.refs a.nl)))) := own_base (own_keep HOV.out (fun q hq => hkw q (HOV.out.lt q hq).2 (by have := (HOV.out.lt q hq).1; have := P4.out.size; omega))) P4.out.size
                clear hap hPR hkw hemp
                generalize hLL : lackedFrom c.held a.refs (adv c.held a.refs a.nl) = LL at *
                by_cases haft : c.after < a.J
                · have hda : decide (c.after < a.J) = true := decide_eq_true haft
                  go_wp2_with (at_builtin; refine wpList_append_run rfl _ _ 60 rfl _ _ _ _ rfl rfl (fun ty => HAP.out ty _) ?_)
                  obtain ⟨tg, htg, hg0, hg1, hg2⟩ := info107
                  refine wp_region_held_drew (S := fun W => Below S0 w W ∧ W.cell? ⟨wb, 0, none⟩ = some (.int .i64 (c.opn a.J)) ∧ W.cell? ⟨AB k, 0, none⟩ = some (.int .i64 a.J)) (by kernel_rfl) (by exact ⟨HLP.out.drew, e6b, e6⟩) (fun hHeld => ?_)
                  refine take_val (i := 0) (dst := some 107) (v := .slice (some ⟨fg, 0, none⟩) (1 + GV.length) fc) rfl rfl (by kernel_rfl) (by kernel_rfl) (by kernel_rfl) (fun _ _ _ h => h) (yields_move (by rfl) _ rfl rfl) hHeld ?_
                  simp only [Act.put, List.setIfInBounds_toArray, List.set_cons_zero, List.set_cons_succ]
                  refine take_val (i := 1) (dst := some 108) (v := .pointer (some ⟨wb, 0, none⟩)) rfl rfl (by kernel_rfl) (by kernel_rfl) (by kernel_rfl) (fun _ _ _ h => h) (Or.inl ⟨by rfl, fun w' hSw => by (try dsimp only at hSw); clear hSw; go_simp⟩) hHeld ?_
                  simp only [Act.put, List.setIfInBounds_toArray, List.set_cons_zero, List.set_cons_succ]
                  refine take_val (i := 2) (dst := some 109) (v := .int .i64 (c.opn a.J)) rfl rfl (by kernel_rfl) (by kernel_rfl) (by kernel_rfl) (fun _ _ _ h => h) (Or.inl ⟨by rfl, fun w' hSw => by have hj := hSw.2.1; clear hSw; go_simp⟩) hHeld ?_
                  simp only [Act.put, List.setIfInBounds_toArray, List.set_cons_zero, List.set_cons_succ]
                  refine take_val (i := 3) (dst := some 110) (v := .pointer (some ⟨mb, 0, none⟩)) rfl rfl (by kernel_rfl) (by kernel_rfl) (by kernel_rfl) (fun _ _ _ h => h) (yields_move (by rfl) _ rfl rfl) hHeld ?_
                  simp only [Act.put, List.setIfInBounds_toArray, List.set_cons_zero, List.set_cons_succ]
                  refine take_val (i := 4) (dst := some 111) (v := .pointer (some ⟨mb, 0, none⟩)) rfl rfl (by kernel_rfl) (by kernel_rfl) (by kernel_rfl) (fun _ _ _ h => h) (yields_move (by rfl) _ rfl rfl) hHeld ?_
                  simp only [Act.put, List.setIfInBounds_toArray, List.set_cons_zero, List.set_cons_succ]
                  refine take_val (i := 5) (dst := some 112) (v := .pointer (some ⟨mb, 0, none⟩)) rfl rfl (by kernel_rfl) (by kernel_rfl) (by kernel_rfl) (fun _ _ _ h => h) (Or.inl ⟨by rfl, fun w' hSw => by (try dsimp only at hSw); clear hSw; go_simp⟩) hHeld ?_
                  simp only [Act.put, List.setIfInBounds_toArray, List.set_cons_zero, List.set_cons_succ]
                  refine take_val (i := 6) (dst := some 113) (v := .pointer (some ⟨mb, 0, none⟩)) rfl rfl (by kernel_rfl) (by kernel_rfl) (by kernel_rfl) (fun _ _ _ h => h) (Or.inl ⟨by rfl, fun w' hSw => by (try dsimp only at hSw); clear hSw; go_simp⟩) hHeld ?_
                  simp only [Act.put, List.setIfInBounds_toArray, List.set_cons_zero, List.set_cons_succ]
                  refine take_val (i := 7) (dst := some 114) (v := .int .i64 id) rfl rfl (by kernel_rfl) (by kernel_rfl) (by kernel_rfl) (fun _ _ _ h => h) (Or.inl ⟨by rfl, fun w' hSw => by have hj := (hSw.1.cell (p := ⟨mb, 0, none⟩) hmb).trans hc0; clear hSw; go_simp⟩) hHeld ?_
                  simp only [Act.put, List.setIfInBounds_toArray, List.set_cons_zero, List.set_cons_succ]
                  refine take_val (i := 8) (dst := some 115) (v := .pointer (some ⟨AB k, 0, none⟩)) rfl rfl (by kernel_rfl) (by kernel_rfl) (by kernel_rfl) (fun _ _ _ h => h) (yields_move (by rfl) _ rfl rfl) hHeld ?_
                  simp only [Act.put, List.setIfInBounds_toArray, List.set_cons_zero, List.set_cons_succ]
                  refine take_val (i := 9) (dst := some 116) (v := .pointer (some ⟨AB k, 0, none⟩)) rfl rfl (by kernel_rfl) (by kernel_rfl) (by kernel_rfl) (fun _ _ _ h => h) (Or.inl ⟨by rfl, fun w' hSw => by (try dsimp only at hSw); clear hSw; go_simp⟩) hHeld ?_
                  simp only [Act.put, List.setIfInBounds_toArray, List.set_cons_zero, List.set_cons_succ]
                  refine take_val (i := 10) (dst := some 117) (v := .pointer (some ⟨AB k, 0, none⟩)) rfl rfl (by kernel_rfl) (by kernel_rfl) (by kernel_rfl) (fun _ _ _ h => h) (Or.inl ⟨by rfl, fun w' hSw => by (try dsimp only at hSw); clear hSw; go_simp⟩) hHeld ?_
                  simp only [Act.put, List.setIfInBounds_toArray, List.set_cons_zero, List.set_cons_succ]
                  refine take_val (i := 11) (dst := some 118) (v := .pointer (some ⟨AB k, 0, none⟩)) rfl rfl (by kernel_rfl) (by kernel_rfl) (by kernel_rfl) (fun _ _ _ h => h) (Or.inl ⟨by rfl, fun w' hSw => by (try dsimp only at hSw); clear hSw; go_simp⟩) hHeld ?_
                  simp only [Act.put, List.setIfInBounds_toArray, List.set_cons_zero, List.set_cons_succ]
                  refine take_val (i := 12) (dst := some 119) (v := .int .i64 a.J) rfl rfl (by kernel_rfl) (by kernel_rfl) (by kernel_rfl) (fun _ _ _ h => h) (Or.inl ⟨by rfl, fun w' hSw => by have hj := hSw.2.2; clear hSw; go_simp⟩) hHeld ?_
                  simp only [Act.put, List.setIfInBounds_toArray, List.set_cons_zero, List.set_cons_succ]
                  refine take_val (i := 14) (dst := some 121) (v := .pointer (some ⟨AB k, 0, none⟩)) rfl rfl (by kernel_rfl) (by kernel_rfl) (by kernel_rfl) (fun _ _ _ h => h) (yields_move (by rfl) _ rfl rfl) hHeld ?_
                  simp only [Act.put, List.setIfInBounds_toArray, List.set_cons_zero, List.set_cons_succ]
                  refine take_val (i := 15) (dst := some 122) (v := .pointer (some ⟨AB k, 0, none⟩)) rfl rfl (by kernel_rfl) (by kernel_rfl) (by kernel_rfl) (fun _ _ _ h => h) (Or.inl ⟨by rfl, fun w' hSw => by (try dsimp only at hSw); clear hSw; go_simp⟩) hHeld ?_
                  simp only [Act.put, List.setIfInBounds_toArray, List.set_cons_zero, List.set_cons_succ]
                  refine take_val (i := 16) (dst := some 123) (v := .pointer (some ⟨AB k, 0, none⟩)) rfl rfl (by kernel_rfl) (by kernel_rfl) (by kernel_rfl) (fun _ _ _ h => h) (Or.inl ⟨by rfl, fun w' hSw => by (try dsimp only at hSw); clear hSw; go_simp⟩) hHeld ?_
                  simp only [Act.put, List.setIfInBounds_toArray, List.set_cons_zero, List.set_cons_succ]
                  refine take_val (i := 17) (dst := some 124) (v := .pointer (some ⟨AB k, 0, none⟩)) rfl rfl (by kernel_rfl) (by kernel_rfl) (by kernel_rfl) (fun _ _ _ h => h) (Or.inl ⟨by rfl, fun w' hSw => by (try dsimp only at hSw); clear hSw; go_simp⟩) hHeld ?_
                  simp only [Act.put, List.setIfInBounds_toArray, List.set_cons_zero, List.set_cons_succ]
                  refine take_val (i := 18) (dst := some 125) (v := .int .i64 a.J) rfl rfl (by kernel_rfl) (by kernel_rfl) (by kernel_rfl) (fun _ _ _ h => h) (Or.inl ⟨by rfl, fun w' hSw => by have hj := hSw.2.2; clear hSw; go_simp⟩) hHeld ?_
                  simp only [Act.put, List.setIfInBounds_toArray, List.set_cons_zero, List.set_cons_succ]
                  refine take_val (i := 19) (dst := some 126) (v := .slice a5 LL.length c5) rfl rfl (by kernel_rfl) (by kernel_rfl) (by kernel_rfl) (fun _ _ _ h => h) (yields_move (by rfl) _ rfl rfl) hHeld ?_
                  simp only [Act.put, List.setIfInBounds_toArray, List.set_cons_zero, List.set_cons_succ]
                  refine take_val (i := 20) (dst := some 127) (v := .agg #[.int .i64 a.J, .int .i64 0, .slice a5 LL.length c5, .bool false]) rfl rfl (by kernel_rfl) (by kernel_rfl) (by kernel_rfl) (fun _ _ _ h => h) (Or.inl ⟨by rfl, fun w' hSw => by (try dsimp only at hSw); clear hSw; go_simp⟩) hHeld ?_
                  simp only [Act.put, List.setIfInBounds_toArray, List.set_cons_zero, List.set_cons_succ]
                  refine wpAnyH_ready (rs := [13]) (by kernel_rfl) (by simp) ?_
                  refine AllReadyH.cons rfl (fun KK hK => ?_) AllReadyH.nil
                  go_simp
                  refine (firstAsk_any mb g c.T c.r c.P 0 si fr fi id a.J oa oc l _ (HM.out _ hHeld.1) hl hT b1 b2 hJa).mono ?_
                  rintro e w7 ⟨q', hq', rfl, hb7⟩
                  obtain rfl := hq'.uniq hq
                  have hbn7 : Below wp.heap.size wp w7 := (Below.refl _ _).drew.trans hb7
                  have hl7 : Below S0 w w7 := HLP.out.trans (hbn7.mono (by omega))
                  have c7 : w7.cell? ⟨wb, 0, none⟩ = some (.int .i64 (c.opn a.J)) := (hbn7.cell (p := ⟨wb, 0, none⟩) hwp).trans e6b
                  have d7 : w7.cell? ⟨AB k, 0, none⟩ = some (.int .i64 a.J) := (hbn7.cell (p := ⟨AB k, 0, none⟩) (by show AB k < wp.heap.size; omega)).trans e6
                  refine hK.out _ _ ⟨hl7, c7, d7⟩ (fun hHeld7 => ?_)
                  clear hK KK
                  try simp only [Act.put, List.setIfInBounds_toArray, List.set_cons_zero, List.set_cons_succ]
                  rw [← HF.out a.J]
                  refine take_val (i := 21) (dst := some 128) (v := .agg #[.int .i64 4, .int .i64 (c.opn a.J), .int .i64 (c.ff a.J), .int .i64 a.J, .int .i64 0, .slice a5 LL.length c5, .bool false]) rfl rfl (by kernel_rfl) (by kernel_rfl) (by kernel_rfl) (fun _ _ _ h => h) (Or.inl ⟨by rfl, fun w' hSw => by (try dsimp only at hSw); clear hSw; go_simp⟩) hHeld7 ?_
                  simp only [Act.put, List.setIfInBounds_toArray, List.set_cons_zero, List.set_cons_succ]
                  refine wpAnyH_ready (rs := [22]) (by kernel_rfl) (by simp) ?_
                  refine AllReadyH.cons rfl (fun KK hK => ?_) AllReadyH.nil
                  refine come_lit (by rfl) 108 107 _ rfl (gc (⟨c.opn a.J, c.ff a.J, a.J, LL⟩, .slice a5 LL.length c5)) rfl tg _ Yba.underlying108 htg hg0 (by rw [hg1]; rfl) (by simp [gc]) (by simp [gc]) ?_
                  refine hK.out _ _ ⟨hl7.alloc (by have := hbn7.size; omega) _, (World.cell?_alloc_past _ _ _ (World.block_lt_of_cell? w7 _ c7)).trans c7, (World.cell?_alloc_past _ _ _ (World.block_lt_of_cell? w7 _ d7)).trans d7⟩ (fun hHeld8 => ?_)
                  clear hK KK
                  try simp only [Act.put, List.setIfInBounds_toArray, List.set_cons_zero, List.set_cons_succ]
                  have hgc1 : ∀ u ∈ gc ((⟨c.opn a.J, c.ff a.J, a.J, LL⟩ : Gap1), .slice a5 LL.length c5), u.oneCell' = true := by
                    intro u hu
                    simp [gc] at hu
                    rcases hu with rfl | rfl | rfl | rfl | rfl | rfl | rfl <;> rfl
                  have hB8 : Below wp.heap.size wp (w7.alloc (.cells (gc ((⟨c.opn a.J, c.ff a.J, a.J, LL⟩ : Gap1), .slice a5 LL.length c5)).toArray 107)) := hbn7.alloc hbn7.size _
                  have P8 : Hid (Lp w (w7.alloc (.cells (gc ((⟨c.opn a.J, c.ff a.J, a.J, LL⟩ : Gap1), .slice a5 LL.length c5)).toArray 107)) lb fb A.length cap AB (fun j => if j = k then adv c.held a.refs a.nl else NN j) (K ++ [k]) GV fg fc (k + 1) C C2) := PR.out.below hB8 hlw (fun j hj => by have := HPA.out j hj; omega)
                  have HO8 : Hid ((w7.alloc (.cells (gc ((⟨c.opn a.J, c.ff a.J, a.J, LL⟩ : Gap1), .slice a5 LL.length c5)).toArray 107)).ownsRow w.heap.size 86 3 (.slice a5 LL.length c5) LL.length (tcs LL)) := own_below HO6.out hB8
                  have hnf : (Value.slice a5 LL.length c5).ownBlock ≠ some fg := fun e => by have := (HOV.out.lt fg e).1; have := P4.out.size; have := HSRW.out; omega
                  have hnb := World.news_of_block (heap_alloc_new w7 (.cells (gc ((⟨c.opn a.J, c.ff a.J, a.J, LL⟩ : Gap1), .slice a5 LL.length c5)).toArray 107))
                  have hfs : fb ≤ (w7.alloc (.cells (gc ((⟨c.opn a.J, c.ff a.J, a.J, LL⟩ : Gap1), .slice a5 LL.length c5)).toArray 107)).heap.size := by have := P8.out.size; omega
                  refine wpAnyH_ready (rs := [23]) (by kernel_rfl) (by simp) ?_
                  refine AllReadyH.cons rfl (fun KK hK => ?_) AllReadyH.nil
                  refine step_append_lies _ (by rfl) _ _ 108 (by rfl) fb 107 tg _ 7 72 Yba.underlying108 htg hg0 hg1 hg2 (by decide) (by omega) (.slice (some ⟨fg, 0, none⟩) (1 + GV.length) fc) (1 + GV.length) (preCells ++ gcs GV) (by rfl) P8.out.fo ⟨w7.heap.size, 0, none⟩ 1 1 (gc ((⟨c.opn a.J, c.ff a.J, a.J, LL⟩ : Gap1), .slice a5 LL.length c5)) (by rfl) (by rfl) hnb hgc1 (by omega) (by simp [maxLen]; omega) (by omega) hfs (w7.heap.size + 1) (by simp) ?_
                  intro g4 cp w9 ho9 hgr hat hg9
                  have P9 : Hid (Lp w w9 lb fb A.length cap AB (fun j => if j = k then adv c.held a.refs a.nl else NN j) (K ++ [k]) (GV ++ [(⟨c.opn a.J, c.ff a.J, a.J, LL⟩, .slice a5 LL.length c5)]) g4 cp (k + 1) C C2) := P8.out.found hgr ho9 (by rcases hat with e | e; exact Or.inl (by injection e with e; exact e.symm); exact Or.inr (by rw [e]; simp)) HO8.out hnf hlw hlf HPA.out
                  have hne1 : wb ≠ fg := by omega
                  have hne2 : AB k ≠ fg := by rcases PR.out.fp with e | e <;> omega
                  refine hK.out _ _ ⟨below_grown hHeld8.1 hgr (by have := hHeld8.1.size; omega) (fun q hq => by have hps := HL.out.ps; have hq2 : fg = q := (by injection hq); rcases PR.out.fp with e | e <;> omega), hgr.cell hHeld8.2.1 (fun e => hne1 (by injection e)), hgr.cell hHeld8.2.2 (fun e => hne2 (by injection e))⟩ (fun hHeld9 => ?_)
                  clear hK KK
                  try simp only [Act.put, List.setIfInBounds_toArray, List.set_cons_zero, List.set_cons_succ]
                  refine take_val (i := 24) (dst := some 2) (v := .slice (some ⟨g4, 0, none⟩) (1 + GV.length + 1) cp) rfl rfl (by kernel_rfl) (by kernel_rfl) (by kernel_rfl) (fun _ _ _ h => h) (Or.inl ⟨by rfl, fun w' hSw => by (try dsimp only at hSw); clear hSw; go_simp⟩) hHeld9 ?_
                  try simp only [Act.put, List.setIfInBounds_toArray, List.set_cons_zero, List.set_cons_succ]
                  refine wpAnyH_done (by kernel_rfl) ?_ _
                  have HS3 : Hid (Sofar c A (k + 1) ((GV ++ [((⟨c.opn a.J, c.ff a.J, a.J, LL⟩ : Gap1), Value.slice a5 LL.length c5)]).map (·.1)) (K ++ [k]) ((List.range (k + 1)).map (fun j => if j = k then adv c.held a.refs a.nl else NN j))) := by
                    have hz := HS2.out
                    rw [if_pos haft] at hz
                    rw [List.map_append]; exact hz
                  have hgl : 1 + (GV ++ [((⟨c.opn a.J, c.ff a.J, a.J, LL⟩ : Gap1), Value.slice a5 LL.length c5)]).length = 1 + GV.length + 1 := by simp; omega
                  clear hHeld hHeld7 hHeld8 hHeld9 e6 e6b c7 d7
                  go_wp2
                  go_roundw
                  case rel => exact ⟨k + 1, GV ++ [((⟨c.opn a.J, c.ff a.J, a.J, LL⟩ : Gap1), Value.slice a5 LL.length c5)], K ++ [k], _, g4, cp, C2, by omega, by simp; omega, by go_num, by rw [hgl], by rw [hKl], HS3, HNN5, P9⟩
                  case measure => simp [intOf]; omega
                · have hda : decide (c.after < a.J) = false := decide_eq_false haft
                  have HS3 : Hid (Sofar c A (k + 1) (GV.map (·.1)) (K ++ [k]) ((List.range (k + 1)).map (fun j => if j = k then adv c.held a.refs a.nl else NN j))) := by
                    have hz := HS2.out
                    rw [if_neg haft, List.append_nil] at hz; exact hz
                  go_wp2_with (at_builtin; refine wpList_append_run rfl _ _ 60 rfl _ _ _ _ rfl rfl (fun ty => HAP.out ty _) ?_)
                  go_roundw
                  case rel => exact ⟨k + 1, GV, K ++ [k], _, fg, fc, C2, by omega, by omega, by go_num, rfl, by rw [hKl], HS3, HNN5, PR⟩
                  case measure => simp [intOf]; omega
      · obtain rfl : k = A.length := by omega
        have HG : Hid (gaps c 0 A = (GV.map (·.1), K, (List.range A.length).map NN)) := HS.out.done (Nat.le_refl _)
        go_wp2_with fail
        go_meet
        case rel => exact ⟨GV, K, NN, fg, fc, C', rfl, rfl, HG, HP⟩
end Go.Proofs.Ybulkdvuo
