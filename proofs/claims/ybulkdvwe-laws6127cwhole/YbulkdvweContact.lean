import Derived.Test.YbulkdvweBuild
namespace Go.Proofs.Ybulkdvwe
open Go.RowKit
open Extern.Stop (cell)
set_option linter.unusedSimpArgs false

/-- the world forgotten but for what is said of it -/
theorem gen_wp {P : Program} {c : Code} {Q : Exit → Act → World → Prop} {a : Act} {w : World} (F : World → Prop) (h : F w) (k : ∀ w', F w' → c.wp P Q a w') : c.wp P Q a w := k w h
theorem there_new {w : World} {c : Array Value} {t : TypeId} {n : Nat} (hn : n ≤ c.size) : (w.alloc (.cells c t)).there w.heap.size 0 n := fun j hj => by
  rw [Nat.zero_add]
  refine ⟨?_, ?_⟩
  · rw [cell_of_row _ _ j _ _ _ (heap_alloc_new w _), Array.getElem?_eq_getElem (by omega)]; rfl
  · have := heap_alloc_new w (.cells c t)
    unfold World.frozen?
    rw [show (⟨w.heap.size, j, none⟩ : Addr).block = w.heap.size from rfl, this]; simp
theorem rangeAt_below {w w' : World} {B b o : Nat} {cs : List Value} (hb : Below B w w') (hlt : b < B) (h : w.rangeAt b o cs) : w'.rangeAt b o cs := fun j v hj => (hb.cell (p := ⟨b, o + j, none⟩) hlt).trans (h j v hj)
theorem there_below {w w' : World} {B b o n : Nat} (hb : Below B w w') (hlt : b < B) (h : w.there b o n) : w'.there b o n := fun j hj =>
  ⟨by rw [hb.cell (p := ⟨b, o + j, none⟩) hlt]; exact (h j hj).1, by rw [hb.frozen (p := ⟨b, o + j, none⟩) hlt]; exact (h j hj).2⟩

theorem below_setCells {B : Nat} {w w' : World} {b : Nat} (h : Below B w w') (hb : B ≤ b) : ∀ (vs : List Value) (o : Nat), Below B w (w'.setCells b o vs) := by
  intro vs
  induction vs generalizing w' with
  | nil => intro o; exact h
  | cons v r ih => intro o; exact ih (h.setCell hb v) (o + 1)
theorem cell_apart {w : World} {b o b' o' : Nat} {vs : List Value} (h : b' ≠ b) : (w.setCells b o vs).cell? ⟨b', o', none⟩ = w.cell? ⟨b', o', none⟩ :=
  World.cell?_setCells_out b vs o w ⟨b', o', none⟩ (fun hb _ => absurd hb h)
/-- the store of many cells, as the walk leaves it -/
theorem stores {P : Program} (b o : Nat) (cs : List Value) (h1 : ∀ v ∈ cs, v.oneCell' = true) (w : World) (ht : w.there b o cs.length) : (storeCells ⟨b, o, none⟩ cs).run P w = .ok () (w.setCells b o cs) := by
  have := run_storeCells_cells (P := P) b o cs 0 w (fun j hj => by simpa using (ht j hj).1) (fun j hj => by simpa using (ht j hj).2) h1
  simpa [storeCells] using this
theorem loads {P : Program} (b o : Nat) (cs : List Value) (w : World) (hc : w.rangeAt b o cs) : (loadCells ⟨b, o, none⟩ cs.length).run P w = .ok cs.toArray w :=
  run_loadCells_list (P := P) w ⟨b, o, none⟩ cs (fun j v hv => by rw [Addr.add_mid]; exact hc j v hv)

set_option maxRecDepth 20000 in
set_option maxHeartbeats 2000000 in
/-- zzs6127ccontact -/
theorem contact_any (x : Ent) (hx : x.ok) (w : World) :
    Calls Yba.prog 7 #[.agg x.cells.toArray] w fun e w' => e = .returned (.agg x.con.toArray) ∧ Below w.heap.size w w' := by
  have u40 := Yba.underlying40
  have hl : (x.id.map cell).length = 20 := by simp [hx.2.1]
  have f40 : (Yba.prog.info? 40).map (·.size) = some (x.id.map cell).length := by rw [hl]; kernel_rfl
  have f62 : (Yba.prog.info? 62).map (·.size) = some x.con.length := by rw [Ent.con_length hx]; kernel_rfl
  have hcl := Ent.con_length hx
  have hone := x.con_one
  have hst : ∀ w', w'.there (w.heap.size + 1) 0 24 → (storeCells ⟨w.heap.size + 1, 0, none⟩ x.con).run Yba.prog w' = .ok () (w'.setCells (w.heap.size + 1) 0 x.con) := fun w' h => stores _ _ _ hone w' (by rw [hcl]; exact h)
  obtain ⟨Y, hY1, hY2, hY3⟩ := con_fold x hx
  have hr0 : (w.alloc (.cells x.cells.toArray 58)).rangeAt w.heap.size 0 x.cells := fun j v hj => by
    rw [Nat.zero_add, cell_of_row _ _ j _ _ _ (heap_alloc_new w _)]; simpa using hj
  have hr1 : (w.alloc (.cells x.cells.toArray 58)).rangeAt w.heap.size 1 (x.id.map cell) := rangeAt_mid (o := 0) (xs := [.int .u8 x.b]) (zs := [.int .u16 x.p, .int .i64 x.an, .int .i64 x.qu]) (by simpa [Ent.cells] using hr0)
  have hp1 : (w.alloc (.cells x.cells.toArray 58)).cell? ⟨w.heap.size, 21, none⟩ = some (.int .u16 x.p) := by
    have := hr0 21 (.int .u16 x.p) (by simp [Ent.cells, List.getElem?_append, hx.2.1])
    simpa using this
  go_enter Yba.func7, Yba.ntmps7
  go_wp2_with fail
  refine gen_wp (fun wB => (wB.rangeAt w.heap.size 1 (x.id.map cell) ∧ wB.cell? ⟨w.heap.size, 21, none⟩ = some (.int .u16 x.p) ∧ wB.there (w.heap.size + 1) 0 24) ∧ Below w.heap.size w wB ∧ wB.heap.size = w.heap.size + 2) ?_ ?_
  · refine ⟨⟨World.rangeAt_alloc hr1 _, (World.cell?_alloc_past _ _ _ (by simp)).trans hp1, ?_⟩, ((Below.refl _ _).alloc (Nat.le_refl _) _).alloc (by simp) _, by simp⟩
    have := there_new (w := w.alloc (.cells x.cells.toArray 58)) (c := (z20 ++ z4).toArray) (t := 62) (n := 24) (by decide)
    rw [show (w.alloc (.cells x.cells.toArray 58)).heap.size = w.heap.size + 1 by simp] at this
    exact this
  rintro wB ⟨⟨k0, k1, k2⟩, hbB, hzB⟩
  clear hr0 hr1 hp1
  go_region_held3 (fun w' => w'.rangeAt w.heap.size 1 (x.id.map cell) ∧ w'.cell? ⟨w.heap.size, 21, none⟩ = some (.int .u16 x.p) ∧ w'.there (w.heap.size + 1) 0 24) (first | (exact ⟨World.rangeAt_setCells_apart q0 _ _ _ (Or.inl (by omega)), (cell_apart (by omega)).trans q1, World.there_setCells q2 _ _ _⟩) | go_keep | go_keep_ranges)
    (first | (go_at_call 16; refine (addrPort_any x.p _).mono ?_; rintro e w1 ⟨rfl, hb1⟩; have q0 := rangeAt_below hb1 (by simp; omega) k0; have q1 := (hb1.cell (p := ⟨w.heap.size, 21, none⟩) (by simp; omega)).trans k1; have q2 := there_below hb1 (by simp; omega) k2; have q3 := hb1.size))
  go_wp2_with fail
  have hrr := World.rangeAt_setCells_same w1 (w.heap.size + 1) 0 x.con (by rw [hcl]; exact q2)
  have hld := run_loadVar_mid (P := Yba.prog) _ (w.heap.size + 1) 0 62 x.con _ hrr Yba.underlying62 rfl f62
  refine bodyPost_ret (v := .agg x.con.toArray) (by simp [results, Yba.results7, hld, Act.eval, asAddr]) rfl ⟨rfl, ?_⟩
  exact below_setCells (hbB.drew.trans (hb1.mono (by simp; omega))) (by omega) _ _
end Go.Proofs.Ybulkdvwe
