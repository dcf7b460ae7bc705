import Derived.Test.YbulkdvweTake
namespace Go.Proofs.Ybulkdvwe
open Go.RowKit
open Extern.Stop (cell)
set_option linter.unusedSimpArgs false

theorem hidT {T : Prop} (h : T) : T := h
/-- the slice value v reads as the entries l -/
def RowAt (w : World) (v : Value) (l : List Ent) : Prop := ∃ a cap, v = .slice a l.length cap ∧ (0 < l.length → ∃ g, a = some ⟨g, 0, none⟩ ∧ g < w.heap.size ∧ w.rangeAt g 0 (l.flatMap Ent.ent))
theorem RowAt.below {w w' : World} {v : Value} {l : List Ent} (h : RowAt w v l) (hb : Below w.heap.size w w') : RowAt w' v l := by
  obtain ⟨a, cap, rfl, h⟩ := h
  refine ⟨a, cap, rfl, fun h0 => ?_⟩
  obtain ⟨g, rfl, hg, hr⟩ := h h0
  exact ⟨g, rfl, Nat.lt_of_lt_of_le hg hb.size, rangeAt_below hb hg hr⟩

set_option maxRecDepth 20000 in
set_option maxHeartbeats 2000000 in
/-- slices.Equal of two rows that read alike -/
theorem equalE (u v : Value) (l : List Ent) (hok : ∀ x ∈ l, x.ok) (w : World) (hu : RowAt w u l) (hv : RowAt w v l) (hL : l.length < 4294967296) :
    Calls Yba.prog 18 #[u, v] w fun e w' => e = .returned (.bool true) ∧ Below w.heap.size w w' := by
  obtain ⟨a, cap, rfl, hu⟩ := hu
  obtain ⟨b, cap', rfl, hv⟩ := hv
  go_enter Yba.func18, Yba.ntmps18
  go_wp2_with fail
  go_loopw [13] (fun i wr => ∃ k : Nat, k ≤ l.length ∧ i = .int .i64 k ∧ Below w.heap.size w wr) (fun i _ => l.length - (intOf i).toNat)
  case atStart => exact ⟨0, by omega, rfl, Below.refl _ _⟩
  case round =>
    obtain ⟨k, hk, rfl, hb⟩ := hrel
    by_cases hlt : k < l.length
    · obtain ⟨g, rfl, hg, hr⟩ := hu (by omega)
      obtain ⟨g', rfl, hg', hr'⟩ := hv (by omega)
      obtain ⟨x, hx⟩ : ∃ x, l[k]? = some x := ⟨_, List.getElem?_eq_getElem hlt⟩
      have hxo := hok x (List.mem_of_getElem? hx)
      have r1 := rangeAt_below hb hg (flat_at (fun x hx => Ent.ent_length (hok x hx)) hr hx)
      have r2 := rangeAt_below hb hg' (flat_at (fun x hx => Ent.ent_length (hok x hx)) hr' hx)
      rw [Nat.zero_add] at r1 r2
      have f65 : (Yba.prog.info? 65).map (·.size) = some x.ent.length := by rw [Ent.ent_length hxo]; kernel_rfl
      have he : ∀ w' : World, (Op.equalIn 10000 65 (.agg x.ent.toArray) (.agg x.ent.toArray)).run Yba.prog w' = .ok true w' := fun w' => eq65 w' 9991 x hxo
      go_wp2_with fail
      clear hu hv hr hr' hx hok
      refine wp_region_held_drew (S := fun w' => w'.rangeAt g (k * 30) x.ent ∧ w'.rangeAt g' (k * 30) x.ent) (by kernel_rfl) (by exact ⟨r1, r2⟩) (fun hHeld => ?_)
      refine take_val (i := 0) (dst := some 16) (v := .slice (some ⟨g, 0, none⟩) l.length cap) rfl rfl (by kernel_rfl) (by kernel_rfl) (by kernel_rfl) (fun _ _ _ h => h) (yields_move (by rfl) _ rfl rfl) hHeld ?_
      simp only [Act.put, List.setIfInBounds_toArray, List.set_cons_zero, List.set_cons_succ]
      refine take_val (i := 1) (dst := some 17) (v := .int .i64 k) rfl rfl (by kernel_rfl) (by kernel_rfl) (by kernel_rfl) (fun _ _ _ h => h) (yields_move (by rfl) _ rfl rfl) hHeld ?_
      simp only [Act.put, List.setIfInBounds_toArray, List.set_cons_zero, List.set_cons_succ]
      refine take_val (i := 2) (dst := some 18) (v := .pointer (some ⟨g, k * 30, none⟩)) rfl rfl (by kernel_rfl) (by kernel_rfl) (by kernel_rfl) (fun _ _ _ h => h) (Or.inl ⟨by rfl, fun w' hSw => by go_simp⟩) hHeld ?_
      simp only [Act.put, List.setIfInBounds_toArray, List.set_cons_zero, List.set_cons_succ]
      refine take_val (i := 3) (dst := some 19) (v := .agg x.ent.toArray) rfl rfl (by kernel_rfl) (by kernel_rfl) (by kernel_rfl) (fun _ _ _ h => h) (yieldsIf_load_mid (by rfl) 65 _ rfl g (k * 30) rfl x.ent _ (fun _ h => h.1) Yba.underlying65 rfl f65) hHeld ?_
      simp only [Act.put, List.setIfInBounds_toArray, List.set_cons_zero, List.set_cons_succ]
      refine take_val (i := 4) (dst := some 20) (v := .slice (some ⟨g', 0, none⟩) l.length cap') rfl rfl (by kernel_rfl) (by kernel_rfl) (by kernel_rfl) (fun _ _ _ h => h) (yields_move (by rfl) _ rfl rfl) hHeld ?_
      simp only [Act.put, List.setIfInBounds_toArray, List.set_cons_zero, List.set_cons_succ]
      refine take_val (i := 5) (dst := some 21) (v := .int .i64 k) rfl rfl (by kernel_rfl) (by kernel_rfl) (by kernel_rfl) (fun _ _ _ h => h) (yields_move (by rfl) _ rfl rfl) hHeld ?_
      simp only [Act.put, List.setIfInBounds_toArray, List.set_cons_zero, List.set_cons_succ]
      refine take_val (i := 6) (dst := some 22) (v := .pointer (some ⟨g', k * 30, none⟩)) rfl rfl (by kernel_rfl) (by kernel_rfl) (by kernel_rfl) (fun _ _ _ h => h) (Or.inl ⟨by rfl, fun w' hSw => by go_simp⟩) hHeld ?_
      simp only [Act.put, List.setIfInBounds_toArray, List.set_cons_zero, List.set_cons_succ]
      refine take_val (i := 7) (dst := some 23) (v := .agg x.ent.toArray) rfl rfl (by kernel_rfl) (by kernel_rfl) (by kernel_rfl) (fun _ _ _ h => h) (yieldsIf_load_mid (by rfl) 65 _ rfl g' (k * 30) rfl x.ent _ (fun _ h => h.2) Yba.underlying65 rfl f65) hHeld ?_
      simp only [Act.put, List.setIfInBounds_toArray, List.set_cons_zero, List.set_cons_succ]
      refine take_val (i := 8) (dst := some 24) (v := .bool (!true)) rfl rfl (by kernel_rfl) (by kernel_rfl) (by kernel_rfl) (fun _ _ _ h => h) (yields_neq (by rfl) 65 _ _ 65 rfl _ _ rfl rfl Yba.eqGuardType65 true (fun w' _ => he w')) hHeld ?_
      simp only [Act.put, List.setIfInBounds_toArray, List.set_cons_zero, List.set_cons_succ]
      refine wpAnyH_done (by kernel_rfl) ?_ _
      clear hHeld
      go_wp2
      go_roundw
      case rel => exact ⟨k + 1, by omega, by go_num, hb.drew⟩
      case measure => simp [intOf]; omega
    · go_wp2
      go_ret
      exact ⟨rfl, hb⟩
end Go.Proofs.Ybulkdvwe
