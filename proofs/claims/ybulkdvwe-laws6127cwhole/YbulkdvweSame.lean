import Derived.Test.YbulkdvweContacts
namespace Go.Proofs.Ybulkdvwe
open Go.RowKit
open Extern.Stop (cell)
set_option linter.unusedSimpArgs false

set_option maxRecDepth 20000 in
set_option maxHeartbeats 2000000 in
/-- zzs6127csame -/
theorem sameE (tb bb : Nat) (self : List UInt8) (q : Int) (bs cs : List Value) (es : List Ent) (w : World) (hok : ∀ x ∈ es, x.ok) (hL : es.length ≤ 65536) (hs : self.length = 20)
    (htb : tb < w.heap.size) (hbb : bb < w.heap.size) (h0 : w.rangeAt tb 0 (self.map cell)) (hq : w.cell? ⟨tb, 20, none⟩ = some (.int .i64 q)) (hbl : bs.length = 160) (hcl : cs.length = 160)
    (hbk : w.rangeAt tb 23 bs) (hck : w.rangeAt bb 0 cs)
    (hrow : ∀ i v, bs[i]? = some v → RowAt w v (inB es i)) (hrow' : ∀ i v, cs[i]? = some v → RowAt w v (inB es i)) :
    Calls Yba.prog 10 #[.pointer (some ⟨tb, 0, none⟩), .pointer (some ⟨bb, 0, none⟩), .agg (self.map cell).toArray, .int .i64 q] w fun e w' => e = .returned (.bool true) ∧ Below w.heap.size w w' := by
  have u43 := Yba.underlying43
  have u40 := Yba.underlying40
  have hl : (self.map cell).length = 20 := by simp [hs]
  have f43 : (Yba.prog.info? 43).map (·.size) = some (self.map cell).length := by rw [hl]; kernel_rfl
  have f40 : (Yba.prog.info? 40).map (·.size) = some (self.map cell).length := by rw [hl]; kernel_rfl
  have he : ∀ w' : World, (Op.equalIn 10000 43 (.agg (self.map cell).toArray) (.agg (self.map cell).toArray)).run Yba.prog w' = .ok true w' := fun w' => eq43 w' 9998 self hs
  have HR : Hid (∀ i v, bs[i]? = some v → RowAt w v (inB es i)) := hrow
  have HC : Hid (∀ i v, cs[i]? = some v → RowAt w v (inB es i)) := hrow'
  have HO : Hid (∀ x ∈ es, x.ok) := hok
  clear hrow hrow' hok
  generalize self.map cell = sl at *
  go_enter Yba.func10, Yba.ntmps10
  go_wp2_with fail
  refine gen_wp (fun wB => (wB.rangeAt tb 0 sl ∧ wB.rangeAt w.heap.size 0 sl ∧ wB.cell? ⟨tb, 20, none⟩ = some (.int .i64 q)) ∧ Below w.heap.size w wB) ?_ ?_
  · refine ⟨⟨World.rangeAt_alloc h0 _, fun j v hj => ?_, (World.cell?_alloc_past _ _ _ htb).trans hq⟩, (Below.refl _ _).alloc (Nat.le_refl _) _⟩
    rw [Nat.zero_add, cell_of_row _ _ j _ _ _ (heap_alloc_new w _)]; simpa using hj
  rintro wB ⟨⟨k0, k1, k2⟩, hbB⟩
  refine wp_region_held_drew (S := fun w' => w'.rangeAt tb 0 sl ∧ w'.rangeAt w.heap.size 0 sl ∧ w'.cell? ⟨tb, 20, none⟩ = some (.int .i64 q)) (by kernel_rfl) (by exact ⟨k0, k1, k2⟩) (fun hHeld => ?_)
  refine take_val (i := 0) (dst := some 10) (v := .pointer (some ⟨tb, 0, none⟩)) rfl rfl (by kernel_rfl) (by kernel_rfl) (by kernel_rfl) (fun _ _ _ h => h) (yields_move (by rfl) _ rfl rfl) hHeld ?_
  simp only [Act.put, List.setIfInBounds_toArray, List.set_cons_zero, List.set_cons_succ]
  refine take_val (i := 1) (dst := some 11) (v := .pointer (some ⟨tb, 0, none⟩)) rfl rfl (by kernel_rfl) (by kernel_rfl) (by kernel_rfl) (fun _ _ _ h => h) (Or.inl ⟨by rfl, fun w' hSw => by (try dsimp only at hSw); go_simp⟩) hHeld ?_
  simp only [Act.put, List.setIfInBounds_toArray, List.set_cons_zero, List.set_cons_succ]
  refine take_val (i := 2) (dst := some 12) (v := .pointer (some ⟨tb, 0, none⟩)) rfl rfl (by kernel_rfl) (by kernel_rfl) (by kernel_rfl) (fun _ _ _ h => h) (Or.inl ⟨by rfl, fun w' hSw => by (try dsimp only at hSw); go_simp⟩) hHeld ?_
  simp only [Act.put, List.setIfInBounds_toArray, List.set_cons_zero, List.set_cons_succ]
  refine take_val (i := 3) (dst := some 13) (v := .agg sl.toArray) rfl rfl (by kernel_rfl) (by kernel_rfl) (by kernel_rfl) (fun _ _ _ h => h) (yieldsIf_load_mid (by rfl) 43 (.tmp 12) rfl tb 0 rfl sl _ (fun _ h => h.1) u43 rfl f43) hHeld ?_
  simp only [Act.put, List.setIfInBounds_toArray, List.set_cons_zero, List.set_cons_succ]
  refine take_val (i := 4) (dst := some 14) (v := .agg sl.toArray) rfl rfl (by kernel_rfl) (by kernel_rfl) (by kernel_rfl) (fun _ _ _ h => h) (yieldsIf_load_mid (by rfl) 40 (.tmp 6) rfl w.heap.size 0 rfl sl _ (fun _ h => h.2.1) u40 rfl f40) hHeld ?_
  simp only [Act.put, List.setIfInBounds_toArray, List.set_cons_zero, List.set_cons_succ]
  refine take_val (i := 5) (dst := some 15) (v := .bool (!true)) rfl rfl (by kernel_rfl) (by kernel_rfl) (by kernel_rfl) (fun _ _ _ h => h) (yields_neq (by rfl) 43 _ _ 43 rfl _ _ rfl rfl Yba.eqGuardType43 true (fun w' _ => he w')) hHeld ?_
  simp only [Act.put, List.setIfInBounds_toArray, List.set_cons_zero, List.set_cons_succ]
  refine take_val (i := 6) (dst := some 16) (v := .bool false) rfl rfl (by kernel_rfl) (by kernel_rfl) (by kernel_rfl) (fun _ _ _ h => h) (yields_move (by rfl) _ rfl rfl) hHeld ?_
  simp only [Act.put, List.setIfInBounds_toArray, List.set_cons_zero, List.set_cons_succ]
  refine take_val (i := 7) (dst := some 17) (v := .pointer (some ⟨tb, 0, none⟩)) rfl rfl (by kernel_rfl) (by kernel_rfl) (by kernel_rfl) (fun _ _ _ h => h) (yields_move (by rfl) _ rfl rfl) hHeld ?_
  simp only [Act.put, List.setIfInBounds_toArray, List.set_cons_zero, List.set_cons_succ]
  refine take_val (i := 8) (dst := some 18) (v := .pointer (some ⟨tb, 0, none⟩)) rfl rfl (by kernel_rfl) (by kernel_rfl) (by kernel_rfl) (fun _ _ _ h => h) (Or.inl ⟨by rfl, fun w' hSw => by (try dsimp only at hSw); go_simp⟩) hHeld ?_
  simp only [Act.put, List.setIfInBounds_toArray, List.set_cons_zero, List.set_cons_succ]
  refine take_val (i := 9) (dst := some 19) (v := .pointer (some ⟨tb, 20, none⟩)) rfl rfl (by kernel_rfl) (by kernel_rfl) (by kernel_rfl) (fun _ _ _ h => h) (Or.inl ⟨by rfl, fun w' hSw => by (try dsimp only at hSw); go_simp⟩) hHeld ?_
  simp only [Act.put, List.setIfInBounds_toArray, List.set_cons_zero, List.set_cons_succ]
  refine take_val (i := 10) (dst := some 20) (v := .int .i64 q) rfl rfl (by kernel_rfl) (by kernel_rfl) (by kernel_rfl) (fun _ _ _ h => h) (Or.inl ⟨by rfl, fun w' hSw => by (try dsimp only at hSw); go_simp⟩) hHeld ?_
  simp only [Act.put, List.setIfInBounds_toArray, List.set_cons_zero, List.set_cons_succ]
  refine take_val (i := 11) (dst := some 21) (v := .int .i64 q) rfl rfl (by kernel_rfl) (by kernel_rfl) (by kernel_rfl) (fun _ _ _ h => h) (yields_move (by rfl) _ rfl rfl) hHeld ?_
  simp only [Act.put, List.setIfInBounds_toArray, List.set_cons_zero, List.set_cons_succ]
  refine take_val (i := 12) (dst := some 22) (v := .bool false) rfl rfl (by kernel_rfl) (by kernel_rfl) (by kernel_rfl) (fun _ _ _ h => h) (Or.inl ⟨by rfl, fun w' hSw => by (try dsimp only at hSw); go_simp⟩) hHeld ?_
  simp only [Act.put, List.setIfInBounds_toArray, List.set_cons_zero, List.set_cons_succ]
  refine take_val (i := 13) (dst := some 23) (v := .bool false) rfl rfl (by kernel_rfl) (by kernel_rfl) (by kernel_rfl) (fun _ _ _ h => h) (Or.inl ⟨by rfl, fun w' hSw => by (try dsimp only at hSw); go_simp⟩) hHeld ?_
  simp only [Act.put, List.setIfInBounds_toArray, List.set_cons_zero, List.set_cons_succ]
  refine wpAnyH_done (by kernel_rfl) ?_ _
  clear hHeld
  go_wp2_with fail
  go_loopw [9] (fun j wr => ∃ k : Nat, k ≤ 160 ∧ j = .int .i64 k ∧ Below w.heap.size w wr) (fun j _ => 160 - (intOf j).toNat)
  case atStart => exact ⟨0, by omega, rfl, hbB.drew⟩
  case round =>
    obtain ⟨k, hk, rfl, hb⟩ := hrel
    by_cases hkn : k < 160
    · obtain ⟨v, hv⟩ : ∃ v, bs[k]? = some v := ⟨_, List.getElem?_eq_getElem (by omega)⟩
      obtain ⟨u, hu⟩ : ∃ u, cs[k]? = some u := ⟨_, List.getElem?_eq_getElem (by omega)⟩
      have c1 : wr.cell? ⟨tb, 23 + k, none⟩ = some v := (hb.cell (p := ⟨tb, 23 + k, none⟩) htb).trans (hbk k v hv)
      have c2 : wr.cell? ⟨bb, k, none⟩ = some u := (hb.cell (p := ⟨bb, k, none⟩) hbb).trans (by simpa using hck k u hu)
      have HE : ∀ W : World, Below w.heap.size w W → Calls Yba.prog 18 #[v, u] W fun e w' => e = .returned (.bool true) ∧ Below W.heap.size W w' := fun W hW =>
        equalE v u (inB es k) (inB_ok HO.out k) W ((HR.out k v hv).below hW) ((HC.out k u hu).below hW) (by have := inB_le es k; omega)
      clear hv hu hbk hck
      have i0 : (0 : Int) ≤ (k : Int) := by omega
      have i1 : (k : Int) < 160 := by omega
      go_wp2_with fail
      go_region_held3 (fun w' => w'.cell? ⟨tb, 23 + k, none⟩ = some v ∧ w'.cell? ⟨bb, k, none⟩ = some u) (go_keep)
        (first | (go_at_call 18; refine (HE _ hb.drew).mono ?_; rintro e w1 ⟨rfl, hb1⟩; have hbn := hb.drew.trans (hb1.mono hb.size); have d1 := (hbn.cell (p := ⟨tb, 23 + k, none⟩) htb).trans ((hb.cell (p := ⟨tb, 23 + k, none⟩) htb).symm.trans c1); have d2 := (hbn.cell (p := ⟨bb, k, none⟩) hbb).trans ((hb.cell (p := ⟨bb, k, none⟩) hbb).symm.trans c2)))
      go_wp2
      go_roundw
      case rel => exact ⟨_, _, _, _, _, _, _, _, _, _, _, _, _, _, _, _, _, _, _, ⟨k + 1, by omega, by go_num, hbn⟩, rfl⟩
      case measure => simp [intOf]; omega
    · go_wp2
      go_ret
      exact ⟨rfl, hb⟩
end Go.Proofs.Ybulkdvwe
