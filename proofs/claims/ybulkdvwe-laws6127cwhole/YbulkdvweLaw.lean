import Derived.Test.YbulkdvweLit
namespace Go.Proofs.Ybulkdvwe
open Go.RowKit
open Extern.Stop (cell)
set_option linter.unusedSimpArgs false

set_option maxRecDepth 20000 in
set_option maxHeartbeats 40000000 in
theorem walk (self : List UInt8) (q : Int) (es : List Ent) (ad : Option Addr) (cap : Nat) (w : World) (hok : ∀ x ∈ es, x.ok) (hs : self.length = 20) (hmax : es.length ≤ 9223372036854775807)
    (harg : 0 < es.length → ∃ be off, ad = some ⟨be, off, none⟩ ∧ be < w.heap.size ∧ w.rangeAt be off (es.flatMap Ent.cells)) :
    Calls Yba.prog 4 #[.agg (self.map cell).toArray, .int .i64 q, .slice ad es.length cap] w fun e w' => e = .returned (.bool true) ∧ Below w.heap.size w w' := by
  have hl : (self.map cell).length = 20 := by simp [hs]
  have f40 : (Yba.prog.info? 40).map (·.size) = some (self.map cell).length := by rw [hl]; kernel_rfl
  have hsr : (w.alloc (.cells (self.map cell).toArray 40)).rangeAt w.heap.size 0 (self.map cell) := fun j v hj => by
    rw [Nat.zero_add, cell_of_row _ _ j _ _ _ (heap_alloc_new w _)]; simpa using hj
  have hbt := build_tab self q hs
  have hz52 := zero52
  have HO : Hid (∀ x ∈ es, x.ok) := hok
  have HA : Hid (0 < es.length → ∃ be off, ad = some ⟨be, off, none⟩ ∧ be < w.heap.size ∧ w.rangeAt be off (es.flatMap Ent.cells)) := harg
  clear hok harg
  by_cases hbig : es.length ≤ 65536
  · go_enter Yba.func4, Yba.ntmps4
    go_wp2_with (first
      | (refine wpList_load_mid rfl 40 _ rfl w.heap.size 0 rfl (self.map cell) _ hsr Yba.underlying40 rfl f40 ?_)
      | (refine wpList_build_run rfl 55 _ rfl #[(0, .agg (self.map cell).toArray), (1, .int .i64 q)] rfl _ hbt ?_))
    go_loopw [29] (fun j wr => ∃ (k : Nat) (bs : List Value), k ≤ es.length ∧ j = .int .i64 k ∧ bs.length = 160 ∧ Tab wr (w.heap.size + 1) (self.map cell) q bs ∧ Rows1 wr (w.heap.size + 2) bs (es.take k) ∧ Below (w.heap.size + 1) (w.alloc (.cells (self.map cell).toArray 40)) wr) (fun j _ => es.length - (intOf j).toNat)
    case atStart =>
      have ht := tab_new (w.alloc (.cells (self.map cell).toArray 40)) (self.map cell) q hl
      rw [show (w.alloc (.cells (self.map cell).toArray 40)).heap.size = w.heap.size + 1 by simp] at ht
      exact ⟨0, List.replicate 160 (.slice none 0 0), by omega, rfl, by simp, ht, rows_new _ _, (Below.refl _ _).alloc (by simp) _⟩
    case round =>
      obtain ⟨k, bs, hk, rfl, hbl, hT, hR, hb⟩ := hrel
      by_cases hkn : k < es.length
      · obtain ⟨be, off, rfl, hbe, har⟩ := HA.out (by omega)
        obtain ⟨x, hx⟩ : ∃ x, es[k]? = some x := ⟨_, List.getElem?_eq_getElem (by omega)⟩
        have hxo := HO.out x (List.mem_of_getElem? hx)
        have hcl := Ent.cells_length hxo
        have f58 : (Yba.prog.info? 58).map (·.size) = some x.cells.length := by rw [hcl]; kernel_rfl
        have r1 : wr.rangeAt be (off + k * 24) x.cells := rangeAt_below hb (by omega) (World.rangeAt_alloc (flat_at (fun x hx => Ent.cells_length (HO.out x hx)) har hx) _)
        have hst : ∀ c : Array Value, c.size = 24 → (storeCells ⟨wr.heap.size, 0, none⟩ x.cells).run Yba.prog (wr.alloc (.cells c 58)) = .ok () ((wr.alloc (.cells c 58)).setCells wr.heap.size 0 x.cells) := fun c hc =>
          stores _ _ _ x.cells_one _ (by rw [hcl]; exact there_new (by omega))
        have hra : ∀ c : Array Value, c.size = 24 → ((wr.alloc (.cells c 58)).setCells wr.heap.size 0 x.cells).rangeAt wr.heap.size 0 x.cells := fun c hc =>
          World.rangeAt_setCells_same (wr.alloc (.cells c 58)) wr.heap.size 0 x.cells (by rw [hcl]; exact there_new (by omega))
        have hc0 : ∀ c : Array Value, c.size = 24 → ((wr.alloc (.cells c 58)).setCells wr.heap.size 0 x.cells).cell? ⟨wr.heap.size, 0, none⟩ = some (.int .u8 x.b) := fun c hc => by
          have := hra c hc 0 (.int .u8 x.b) rfl
          simpa using this
        have hb0 := hxo.1
        have hbm : x.b % 160 = (x.bk : Int) := by unfold Ent.bk; omega
        have HRA : Hid (∀ c : Array Value, c.size = 24 → ((wr.alloc (.cells c 58)).setCells wr.heap.size 0 x.cells).rangeAt wr.heap.size 0 x.cells) := hra
        clear hra
        go_wp2_with (first
          | (refine wpList_load_mid rfl 58 _ rfl be (off + k * 24) rfl x.cells _ r1 Yba.underlying58 rfl f58 ?_))
        have han : ∀ W : World, W.rangeAt wr.heap.size 0 x.cells → W.cell? ⟨wr.heap.size, 22, none⟩ = some (.int .i64 x.an) := fun W h => by
          have := h 22 (.int .i64 x.an) (by simp [Ent.cells, List.getElem?_append, hxo.2.1])
          simpa using this
        have hqu : ∀ W : World, W.rangeAt wr.heap.size 0 x.cells → W.cell? ⟨wr.heap.size, 23, none⟩ = some (.int .i64 x.qu) := fun W h => by
          have := h 23 (.int .i64 x.qu) (by simp [Ent.cells, List.getElem?_append, hxo.2.1])
          simpa using this
        have hbe65 := build_ent x hxo
        have hadd := add_any
        unfold timeOf at hadd
        have hel := Ent.ent_length hxo
        have f65 : (Yba.prog.info? 65).map (·.size) = some x.ent.length := by rw [hel]; kernel_rfl
        refine gen_wp (fun wA => wA.rangeAt wr.heap.size 0 x.cells ∧ Below wr.heap.size wr wA ∧ wA.heap.size = wr.heap.size + 1) ⟨HRA.out _ rfl, below_setCells ((Below.refl _ _).alloc (Nat.le_refl _) _) (Nat.le_refl _) _ _, by rw [size_setCells]; simp⟩ ?_
        rintro wA ⟨hxA, hbA, hzA⟩
        clear hst hc0 HRA r1
        simp only [hbm]
        go_cut [11] from 37 to 47 (fun s wx => ∃ eb, s = .pointer (some ⟨eb, 0, none⟩) ∧ wA.heap.size ≤ eb ∧ eb < wx.heap.size ∧ wx.rangeAt eb 0 x.ent ∧ Below wA.heap.size wA wx)
        case first =>
          refine wp_region_held_drew (S := fun W => W.rangeAt wr.heap.size 0 x.cells ∧ Below wA.heap.size wA W) (by kernel_rfl) (by exact ⟨hxA, (Below.refl _ _).drew⟩) (fun hHeld => ?_)
          refine take_val (i := 0) (dst := some 37) (v := .agg x.cells.toArray) rfl rfl (by kernel_rfl) (by kernel_rfl) (by kernel_rfl) (fun _ _ _ h => h) (yieldsIf_load_mid (by rfl) 58 (.tmp 9) rfl wr.heap.size 0 rfl x.cells _ (fun _ h => h.1) Yba.underlying58 rfl f58) hHeld ?_
          simp only [Act.put, List.setIfInBounds_toArray, List.set_cons_zero, List.set_cons_succ]
          refine take_val (i := 2) (dst := some 39) (v := .agg #[.int .u64 0, .int .i64 0, .pointer none]) rfl rfl (by kernel_rfl) (by kernel_rfl) (by kernel_rfl) (fun _ _ _ h => h) (Or.inl ⟨by rfl, fun w' hSw => by (try dsimp only at hSw); go_simp⟩) hHeld ?_
          simp only [Act.put, List.setIfInBounds_toArray, List.set_cons_zero, List.set_cons_succ]
          refine take_val (i := 3) (dst := some 40) (v := .pointer (some ⟨wr.heap.size, 22, none⟩)) rfl rfl (by kernel_rfl) (by kernel_rfl) (by kernel_rfl) (fun _ _ _ h => h) (Or.inl ⟨by rfl, fun w' hSw => by (try dsimp only at hSw); go_simp⟩) hHeld ?_
          simp only [Act.put, List.setIfInBounds_toArray, List.set_cons_zero, List.set_cons_succ]
          refine take_val (i := 4) (dst := some 41) (v := .int .i64 x.an) rfl rfl (by kernel_rfl) (by kernel_rfl) (by kernel_rfl) (fun _ _ _ h => h) (Or.inl ⟨by rfl, fun w' hSw => by have h22 := han w' hSw.1; clear hSw; go_simp⟩) hHeld ?_
          simp only [Act.put, List.setIfInBounds_toArray, List.set_cons_zero, List.set_cons_succ]
          refine take_val (i := 6) (dst := some 43) (v := .agg #[.int .u64 0, .int .i64 0, .pointer none]) rfl rfl (by kernel_rfl) (by kernel_rfl) (by kernel_rfl) (fun _ _ _ h => h) (Or.inl ⟨by rfl, fun w' hSw => by (try dsimp only at hSw); go_simp⟩) hHeld ?_
          simp only [Act.put, List.setIfInBounds_toArray, List.set_cons_zero, List.set_cons_succ]
          refine take_val (i := 7) (dst := some 44) (v := .pointer (some ⟨wr.heap.size, 23, none⟩)) rfl rfl (by kernel_rfl) (by kernel_rfl) (by kernel_rfl) (fun _ _ _ h => h) (Or.inl ⟨by rfl, fun w' hSw => by (try dsimp only at hSw); go_simp⟩) hHeld ?_
          simp only [Act.put, List.setIfInBounds_toArray, List.set_cons_zero, List.set_cons_succ]
          refine take_val (i := 8) (dst := some 45) (v := .int .i64 x.qu) rfl rfl (by kernel_rfl) (by kernel_rfl) (by kernel_rfl) (fun _ _ _ h => h) (Or.inl ⟨by rfl, fun w' hSw => by have h23 := hqu w' hSw.1; clear hSw; go_simp⟩) hHeld ?_
          simp only [Act.put, List.setIfInBounds_toArray, List.set_cons_zero, List.set_cons_succ]
          refine gen_any (fun V => V.rangeAt wr.heap.size 0 x.cells ∧ Below wA.heap.size wA V) hHeld ?_
          clear hHeld
          rintro W0 hHeld
          refine wpAnyH_ready (rs := [1, 11]) (by kernel_rfl) (by simp) ?_
          refine AllReadyH.cons rfl (fun K hK => ?_) ?_
          · go_simp
            refine (contact_any x hxo _).mono ?_
            rintro e w1 ⟨rfl, hb1⟩
            have hB1 := hHeld.2.trans (hb1.mono hHeld.2.size)
            have hx1 := rangeAt_below hB1 (by omega) hxA
            refine hK.out _ _ ⟨hx1, hB1⟩ (fun hHeld => ?_)
            clear hK K
            try simp only [Act.put, List.setIfInBounds_toArray, List.set_cons_zero, List.set_cons_succ]
            refine wpAnyH_ready (rs := [5, 11]) (by kernel_rfl) (by simp) ?_
            refine AllReadyH.cons rfl (fun K hK => ?_) ?_
            · go_simp
              refine (hadd x.an _ hxo.2.2.1.1 hxo.2.2.1.2).mono ?_
              rintro e w2 ⟨rfl, hb2⟩
              have hB2 := hHeld.2.trans (hb2.mono hHeld.2.size)
              have hx2 := rangeAt_below hB2 (by omega) hxA
              refine hK.out _ _ ⟨hx2, hB2⟩ (fun hHeld => ?_)
              clear hK K
              try simp only [Act.put, List.setIfInBounds_toArray, List.set_cons_zero, List.set_cons_succ]
              refine wpAnyH_ready (rs := [9, 11]) (by kernel_rfl) (by simp) ?_
              refine AllReadyH.cons rfl (fun K hK => ?_) ?_
              · go_simp
                refine (hadd x.qu _ hxo.2.2.2.1 hxo.2.2.2.2).mono ?_
                rintro e w3 ⟨rfl, hb3⟩
                have hB3 := hHeld.2.trans (hb3.mono hHeld.2.size)
                have hx3 := rangeAt_below hB3 (by omega) hxA
                refine hK.out _ _ ⟨hx3, hB3⟩ (fun hHeld => ?_)
                clear hK K
                try simp only [Act.put, List.setIfInBounds_toArray, List.set_cons_zero, List.set_cons_succ]
                refine take_val (i := 10) (dst := some 47) (v := .agg x.ent.toArray) rfl rfl (by kernel_rfl) (by kernel_rfl) (by kernel_rfl) (fun _ _ _ h => h) (yields_build (by rfl) 65 _ rfl #[(0, .agg x.con.toArray), (1, .agg #[.int .u64 (x.an % 1000000000), .int .i64 (x.an / 1000000000), .pointer none]), (2, .agg #[.int .u64 (x.qu % 1000000000), .int .i64 (x.qu / 1000000000), .pointer none])] rfl _ hbe65) hHeld ?_
                simp only [Act.put, List.setIfInBounds_toArray, List.set_cons_zero, List.set_cons_succ]
                refine wpAnyH_ready (rs := [11]) (by kernel_rfl) (by simp) ?_
                refine AllReadyH.cons rfl (fun K hK => ?_) AllReadyH.nil
                go_simp
                refine hK.out _ _ ⟨World.rangeAt_alloc hHeld.1 _, hHeld.2.alloc hHeld.2.size _⟩ (fun hHeld2 => ?_)
                clear hK K
                try simp only [Act.put, List.setIfInBounds_toArray, List.set_cons_zero, List.set_cons_succ]
                have heb : wA.heap.size ≤ w3.heap.size := hHeld.2.size
                refine gen_any (fun V => (V.rangeAt wr.heap.size 0 x.cells ∧ Below wA.heap.size wA V) ∧ V.there w3.heap.size 0 30 ∧ w3.heap.size < V.heap.size) ⟨hHeld2, there_new (by decide), by simp⟩ ?_
                clear hHeld2
                rintro V4 ⟨hHeld, hth, hlt⟩
                refine wpAnyH_ready (rs := [12]) (by kernel_rfl) (by simp) ?_
                refine AllReadyH.cons rfl (fun K hK => ?_) AllReadyH.nil
                refine come_store (by rfl) rfl 65 _ _ rfl (w3.heap.size) 0 x.ent rfl rfl (by rw [hel]; exact hth) f65 x.ent_one ?_
                refine hK.out _ _ ⟨World.rangeAt_setCells_apart hHeld.1 _ _ _ (Or.inl (by omega)), below_setCells hHeld.2 heb _ _⟩ (fun _ => ?_)
                clear hK K
                refine wpAnyH_done (by kernel_rfl) ?_ _
                go_wp2_with fail
                go_meet
                case rel => exact ⟨w3.heap.size, rfl, heb, by rw [size_setCells]; exact hlt, World.rangeAt_setCells_same _ _ _ _ (by rw [hel]; exact hth), below_setCells hHeld.2 heb _ _⟩
              refine AllReadyH.cons rfl (fun K hK => ?_) AllReadyH.nil
              go_simp
              refine hK.out _ _ ⟨World.rangeAt_alloc hHeld.1 _, hHeld.2.alloc hHeld.2.size _⟩ (fun hHeld2 => ?_)
              clear hK K
              try simp only [Act.put, List.setIfInBounds_toArray, List.set_cons_zero, List.set_cons_succ]
              have heb : wA.heap.size ≤ w2.heap.size := hHeld.2.size
              refine gen_any (fun V => (V.rangeAt wr.heap.size 0 x.cells ∧ Below wA.heap.size wA V) ∧ V.there w2.heap.size 0 30 ∧ w2.heap.size < V.heap.size) ⟨hHeld2, there_new (by decide), by simp⟩ ?_
              clear hHeld2
              rintro V5 ⟨hHeld, hth, hlt⟩
              refine wpAnyH_ready (rs := [9]) (by kernel_rfl) (by simp) ?_
              refine AllReadyH.cons rfl (fun K hK => ?_) AllReadyH.nil
              go_simp
              refine (hadd x.qu _ hxo.2.2.2.1 hxo.2.2.2.2).mono ?_
              rintro e w6 ⟨rfl, hb6⟩
              have hB6 := hHeld.2.trans (hb6.mono hHeld.2.size)
              have hx6 := rangeAt_below hB6 (by omega) hxA
              have hth := there_below hb6 hlt hth
              have hlt := Nat.lt_of_lt_of_le hlt hb6.size
              refine hK.out _ _ ⟨hx6, hB6⟩ (fun hHeld => ?_)
              clear hK K
              try simp only [Act.put, List.setIfInBounds_toArray, List.set_cons_zero, List.set_cons_succ]
              refine take_val (i := 10) (dst := some 47) (v := .agg x.ent.toArray) rfl rfl (by kernel_rfl) (by kernel_rfl) (by kernel_rfl) (fun _ _ _ h => h) (yields_build (by rfl) 65 _ rfl #[(0, .agg x.con.toArray), (1, .agg #[.int .u64 (x.an % 1000000000), .int .i64 (x.an / 1000000000), .pointer none]), (2, .agg #[.int .u64 (x.qu % 1000000000), .int .i64 (x.qu / 1000000000), .pointer none])] rfl _ hbe65) hHeld ?_
              simp only [Act.put, List.setIfInBounds_toArray, List.set_cons_zero, List.set_cons_succ]
              refine wpAnyH_ready (rs := [12]) (by kernel_rfl) (by simp) ?_
              refine AllReadyH.cons rfl (fun K hK => ?_) AllReadyH.nil
              refine come_store (by rfl) rfl 65 _ _ rfl (w2.heap.size) 0 x.ent rfl rfl (by rw [hel]; exact hth) f65 x.ent_one ?_
              refine hK.out _ _ ⟨World.rangeAt_setCells_apart hHeld.1 _ _ _ (Or.inl (by omega)), below_setCells hHeld.2 heb _ _⟩ (fun _ => ?_)
              clear hK K
              refine wpAnyH_done (by kernel_rfl) ?_ _
              go_wp2_with fail
              go_meet
              case rel => exact ⟨w2.heap.size, rfl, heb, by rw [size_setCells]; exact hlt, World.rangeAt_setCells_same _ _ _ _ (by rw [hel]; exact hth), below_setCells hHeld.2 heb _ _⟩
            refine AllReadyH.cons rfl (fun K hK => ?_) AllReadyH.nil
            go_simp
            refine hK.out _ _ ⟨World.rangeAt_alloc hHeld.1 _, hHeld.2.alloc hHeld.2.size _⟩ (fun hHeld2 => ?_)
            clear hK K
            try simp only [Act.put, List.setIfInBounds_toArray, List.set_cons_zero, List.set_cons_succ]
            have heb : wA.heap.size ≤ w1.heap.size := hHeld.2.size
            refine gen_any (fun V => (V.rangeAt wr.heap.size 0 x.cells ∧ Below wA.heap.size wA V) ∧ V.there w1.heap.size 0 30 ∧ w1.heap.size < V.heap.size) ⟨hHeld2, there_new (by decide), by simp⟩ ?_
            clear hHeld2
            rintro V7 ⟨hHeld, hth, hlt⟩
            refine wpAnyH_ready (rs := [5]) (by kernel_rfl) (by simp) ?_
            refine AllReadyH.cons rfl (fun K hK => ?_) AllReadyH.nil
            go_simp
            refine (hadd x.an _ hxo.2.2.1.1 hxo.2.2.1.2).mono ?_
            rintro e w8 ⟨rfl, hb8⟩
            have hB8 := hHeld.2.trans (hb8.mono hHeld.2.size)
            have hx8 := rangeAt_below hB8 (by omega) hxA
            have hth := there_below hb8 hlt hth
            have hlt := Nat.lt_of_lt_of_le hlt hb8.size
            refine hK.out _ _ ⟨hx8, hB8⟩ (fun hHeld => ?_)
            clear hK K
            try simp only [Act.put, List.setIfInBounds_toArray, List.set_cons_zero, List.set_cons_succ]
            refine wpAnyH_ready (rs := [9]) (by kernel_rfl) (by simp) ?_
            refine AllReadyH.cons rfl (fun K hK => ?_) AllReadyH.nil
            go_simp
            refine (hadd x.qu _ hxo.2.2.2.1 hxo.2.2.2.2).mono ?_
            rintro e w9 ⟨rfl, hb9⟩
            have hB9 := hHeld.2.trans (hb9.mono hHeld.2.size)
            have hx9 := rangeAt_below hB9 (by omega) hxA
            have hth := there_below hb9 hlt hth
            have hlt := Nat.lt_of_lt_of_le hlt hb9.size
            refine hK.out _ _ ⟨hx9, hB9⟩ (fun hHeld => ?_)
            clear hK K
            try simp only [Act.put, List.setIfInBounds_toArray, List.set_cons_zero, List.set_cons_succ]
            refine take_val (i := 10) (dst := some 47) (v := .agg x.ent.toArray) rfl rfl (by kernel_rfl) (by kernel_rfl) (by kernel_rfl) (fun _ _ _ h => h) (yields_build (by rfl) 65 _ rfl #[(0, .agg x.con.toArray), (1, .agg #[.int .u64 (x.an % 1000000000), .int .i64 (x.an / 1000000000), .pointer none]), (2, .agg #[.int .u64 (x.qu % 1000000000), .int .i64 (x.qu / 1000000000), .pointer none])] rfl _ hbe65) hHeld ?_
            simp only [Act.put, List.setIfInBounds_toArray, List.set_cons_zero, List.set_cons_succ]
            refine wpAnyH_ready (rs := [12]) (by kernel_rfl) (by simp) ?_
            refine AllReadyH.cons rfl (fun K hK => ?_) AllReadyH.nil
            refine come_store (by rfl) rfl 65 _ _ rfl (w1.heap.size) 0 x.ent rfl rfl (by rw [hel]; exact hth) f65 x.ent_one ?_
            refine hK.out _ _ ⟨World.rangeAt_setCells_apart hHeld.1 _ _ _ (Or.inl (by omega)), below_setCells hHeld.2 heb _ _⟩ (fun _ => ?_)
            clear hK K
            refine wpAnyH_done (by kernel_rfl) ?_ _
            go_wp2_with fail
            go_meet
            case rel => exact ⟨w1.heap.size, rfl, heb, by rw [size_setCells]; exact hlt, World.rangeAt_setCells_same _ _ _ _ (by rw [hel]; exact hth), below_setCells hHeld.2 heb _ _⟩
          refine AllReadyH.cons rfl (fun K hK => ?_) AllReadyH.nil
          go_simp
          refine hK.out _ _ ⟨World.rangeAt_alloc hHeld.1 _, hHeld.2.alloc hHeld.2.size _⟩ (fun hHeld2 => ?_)
          clear hK K
          try simp only [Act.put, List.setIfInBounds_toArray, List.set_cons_zero, List.set_cons_succ]
          have heb : wA.heap.size ≤ W0.heap.size := hHeld.2.size
          refine gen_any (fun V => (V.rangeAt wr.heap.size 0 x.cells ∧ Below wA.heap.size wA V) ∧ V.there W0.heap.size 0 30 ∧ W0.heap.size < V.heap.size) ⟨hHeld2, there_new (by decide), by simp⟩ ?_
          clear hHeld2
          rintro V10 ⟨hHeld, hth, hlt⟩
          refine wpAnyH_ready (rs := [1]) (by kernel_rfl) (by simp) ?_
          refine AllReadyH.cons rfl (fun K hK => ?_) AllReadyH.nil
          go_simp
          refine (contact_any x hxo _).mono ?_
          rintro e w11 ⟨rfl, hb11⟩
          have hB11 := hHeld.2.trans (hb11.mono hHeld.2.size)
          have hx11 := rangeAt_below hB11 (by omega) hxA
          have hth := there_below hb11 hlt hth
          have hlt := Nat.lt_of_lt_of_le hlt hb11.size
          refine hK.out _ _ ⟨hx11, hB11⟩ (fun hHeld => ?_)
          clear hK K
          try simp only [Act.put, List.setIfInBounds_toArray, List.set_cons_zero, List.set_cons_succ]
          refine wpAnyH_ready (rs := [5]) (by kernel_rfl) (by simp) ?_
          refine AllReadyH.cons rfl (fun K hK => ?_) AllReadyH.nil
          go_simp
          refine (hadd x.an _ hxo.2.2.1.1 hxo.2.2.1.2).mono ?_
          rintro e w12 ⟨rfl, hb12⟩
          have hB12 := hHeld.2.trans (hb12.mono hHeld.2.size)
          have hx12 := rangeAt_below hB12 (by omega) hxA
          have hth := there_below hb12 hlt hth
          have hlt := Nat.lt_of_lt_of_le hlt hb12.size
          refine hK.out _ _ ⟨hx12, hB12⟩ (fun hHeld => ?_)
          clear hK K
          try simp only [Act.put, List.setIfInBounds_toArray, List.set_cons_zero, List.set_cons_succ]
          refine wpAnyH_ready (rs := [9]) (by kernel_rfl) (by simp) ?_
          refine AllReadyH.cons rfl (fun K hK => ?_) AllReadyH.nil
          go_simp
          refine (hadd x.qu _ hxo.2.2.2.1 hxo.2.2.2.2).mono ?_
          rintro e w13 ⟨rfl, hb13⟩
          have hB13 := hHeld.2.trans (hb13.mono hHeld.2.size)
          have hx13 := rangeAt_below hB13 (by omega) hxA
          have hth := there_below hb13 hlt hth
          have hlt := Nat.lt_of_lt_of_le hlt hb13.size
          refine hK.out _ _ ⟨hx13, hB13⟩ (fun hHeld => ?_)
          clear hK K
          try simp only [Act.put, List.setIfInBounds_toArray, List.set_cons_zero, List.set_cons_succ]
          refine take_val (i := 10) (dst := some 47) (v := .agg x.ent.toArray) rfl rfl (by kernel_rfl) (by kernel_rfl) (by kernel_rfl) (fun _ _ _ h => h) (yields_build (by rfl) 65 _ rfl #[(0, .agg x.con.toArray), (1, .agg #[.int .u64 (x.an % 1000000000), .int .i64 (x.an / 1000000000), .pointer none]), (2, .agg #[.int .u64 (x.qu % 1000000000), .int .i64 (x.qu / 1000000000), .pointer none])] rfl _ hbe65) hHeld ?_
          simp only [Act.put, List.setIfInBounds_toArray, List.set_cons_zero, List.set_cons_succ]
          refine wpAnyH_ready (rs := [12]) (by kernel_rfl) (by simp) ?_
          refine AllReadyH.cons rfl (fun K hK => ?_) AllReadyH.nil
          refine come_store (by rfl) rfl 65 _ _ rfl (W0.heap.size) 0 x.ent rfl rfl (by rw [hel]; exact hth) f65 x.ent_one ?_
          refine hK.out _ _ ⟨World.rangeAt_setCells_apart hHeld.1 _ _ _ (Or.inl (by omega)), below_setCells hHeld.2 heb _ _⟩ (fun _ => ?_)
          clear hK K
          refine wpAnyH_done (by kernel_rfl) ?_ _
          go_wp2_with fail
          go_meet
          case rel => exact ⟨W0.heap.size, rfl, heb, by rw [size_setCells]; exact hlt, World.rangeAt_setCells_same _ _ _ _ (by rw [hel]; exact hth), below_setCells hHeld.2 heb _ _⟩
        case rest =>
          obtain ⟨eb, rfl, heb, hlt, hre, hbx⟩ := hcut
          obtain ⟨v, hv⟩ : ∃ v, bs[x.bk]? = some v := ⟨_, List.getElem?_eq_getElem (by have := x.bk_lt; omega)⟩
          have hkx : ∀ g, g < wr.heap.size → wc.heap[g]? = wr.heap[g]? := fun g hg => (hbx.block g (by omega)).trans (hbA.block g hg)
          have htb := hT.lt
          have hTc := hT.keep (hkx _ htb)
          have hlv := (hR.own x.bk v hv).lt
          have hcv : wc.cell? ⟨w.heap.size + 1, 23 + x.bk, none⟩ = some v := hTc.bks x.bk v hv
          have hfv : wc.frozen? ⟨w.heap.size + 1, 23 + x.bk, none⟩ = false := hTc.free _
          have hsz1 : wr.heap.size < wc.heap.size := by have := hbx.size; omega
          obtain ⟨ti, hti, hz0, hz1, hz2⟩ := info65
          have hxb := x.bk_lt
          have i0 : (0 : Int) ≤ (x.bk : Int) := by omega
          have i1 : (x.bk : Int) < 160 := by omega
          go_wp2_with fail
          refine wp_region_held_drew (S := fun W => W.rangeAt eb 0 x.ent) (by kernel_rfl) (by exact hre) (fun hHeld => ?_)
          refine take_val (i := 0) (dst := some 48) (v := .pointer (some ⟨w.heap.size + 1, 0, none⟩)) rfl rfl (by kernel_rfl) (by kernel_rfl) (by kernel_rfl) (fun _ _ _ h => h) (yields_move (by rfl) _ rfl rfl) hHeld ?_
          simp only [Act.put, List.setIfInBounds_toArray, List.set_cons_zero, List.set_cons_succ]
          refine take_val (i := 1) (dst := some 49) (v := .int .i64 x.bk) rfl rfl (by kernel_rfl) (by kernel_rfl) (by kernel_rfl) (fun _ _ _ h => h) (yields_move (by rfl) _ rfl rfl) hHeld ?_
          simp only [Act.put, List.setIfInBounds_toArray, List.set_cons_zero, List.set_cons_succ]
          refine take_val (i := 2) (dst := some 50) (v := .pointer (some ⟨w.heap.size + 1, 0, none⟩)) rfl rfl (by kernel_rfl) (by kernel_rfl) (by kernel_rfl) (fun _ _ _ h => h) (yields_move (by rfl) _ rfl rfl) hHeld ?_
          simp only [Act.put, List.setIfInBounds_toArray, List.set_cons_zero, List.set_cons_succ]
          refine take_val (i := 3) (dst := some 51) (v := .int .i64 x.bk) rfl rfl (by kernel_rfl) (by kernel_rfl) (by kernel_rfl) (fun _ _ _ h => h) (yields_move (by rfl) _ rfl rfl) hHeld ?_
          simp only [Act.put, List.setIfInBounds_toArray, List.set_cons_zero, List.set_cons_succ]
          refine take_val (i := 4) (dst := some 52) (v := .pointer (some ⟨w.heap.size + 1, 0, none⟩)) rfl rfl (by kernel_rfl) (by kernel_rfl) (by kernel_rfl) (fun _ _ _ h => h) (Or.inl ⟨by rfl, fun w' hSw => by (try dsimp only at hSw); clear hSw; go_simp⟩) hHeld ?_
          simp only [Act.put, List.setIfInBounds_toArray, List.set_cons_zero, List.set_cons_succ]
          refine take_val (i := 5) (dst := some 53) (v := .pointer (some ⟨w.heap.size + 1, 23, none⟩)) rfl rfl (by kernel_rfl) (by kernel_rfl) (by kernel_rfl) (fun _ _ _ h => h) (Or.inl ⟨by rfl, fun w' hSw => by (try dsimp only at hSw); clear hSw; go_simp⟩) hHeld ?_
          simp only [Act.put, List.setIfInBounds_toArray, List.set_cons_zero, List.set_cons_succ]
          refine take_val (i := 6) (dst := some 54) (v := .pointer (some ⟨w.heap.size + 1, 23 + x.bk, none⟩)) rfl rfl (by kernel_rfl) (by kernel_rfl) (by kernel_rfl) (fun _ _ _ h => h) (Or.inl ⟨by rfl, fun w' hSw => by (try dsimp only at hSw); clear hSw; go_simp⟩) hHeld ?_
          simp only [Act.put, List.setIfInBounds_toArray, List.set_cons_zero, List.set_cons_succ]
          refine take_val (i := 8) (dst := some 56) (v := .agg x.ent.toArray) rfl rfl (by kernel_rfl) (by kernel_rfl) (by kernel_rfl) (fun _ _ _ h => h) (yieldsIf_load_mid (by rfl) 65 (.tmp 11) rfl eb 0 rfl x.ent _ (fun _ h => h) Yba.underlying65 rfl f65) hHeld ?_
          simp only [Act.put, List.setIfInBounds_toArray, List.set_cons_zero, List.set_cons_succ]
          refine take_val (i := 11) (dst := some 59) (v := .pointer (some ⟨w.heap.size + 1, 0, none⟩)) rfl rfl (by kernel_rfl) (by kernel_rfl) (by kernel_rfl) (fun _ _ _ h => h) (Or.inl ⟨by rfl, fun w' hSw => by (try dsimp only at hSw); clear hSw; go_simp⟩) hHeld ?_
          simp only [Act.put, List.setIfInBounds_toArray, List.set_cons_zero, List.set_cons_succ]
          refine take_val (i := 12) (dst := some 60) (v := .pointer (some ⟨w.heap.size + 1, 23, none⟩)) rfl rfl (by kernel_rfl) (by kernel_rfl) (by kernel_rfl) (fun _ _ _ h => h) (Or.inl ⟨by rfl, fun w' hSw => by (try dsimp only at hSw); clear hSw; go_simp⟩) hHeld ?_
          simp only [Act.put, List.setIfInBounds_toArray, List.set_cons_zero, List.set_cons_succ]
          have hlit : ∀ W : World, W = wc.drew → (W.alloc (.cells x.ent.toArray 65)).rangeAt eb 0 x.ent ∧ (W.alloc (.cells x.ent.toArray 65)).cell? ⟨w.heap.size + 1, 23 + x.bk, none⟩ = some v ∧ Below wc.heap.size wc (W.alloc (.cells x.ent.toArray 65)) ∧ (W.alloc (.cells x.ent.toArray 65)).rangeAt wc.heap.size 0 x.ent ∧ (W.alloc (.cells x.ent.toArray 65)).heap.size = wc.heap.size + 1 := fun W hW => by
            subst hW
            refine ⟨World.rangeAt_alloc hre _, (World.cell?_alloc_past _ _ _ (by show w.heap.size + 1 < wc.heap.size; omega)).trans hcv, (Below.refl _ _).drew.alloc (Nat.le_refl _) _, fun j u hj => ?_, by simp⟩
            rw [Nat.zero_add, show wc.heap.size = wc.drew.heap.size from rfl, cell_of_row _ _ j _ _ _ (heap_alloc_new wc.drew _)]; simpa using hj
          have HLIT : Hid (∀ W : World, W = wc.drew → (W.alloc (.cells x.ent.toArray 65)).rangeAt eb 0 x.ent ∧ (W.alloc (.cells x.ent.toArray 65)).cell? ⟨w.heap.size + 1, 23 + x.bk, none⟩ = some v ∧ Below wc.heap.size wc (W.alloc (.cells x.ent.toArray 65)) ∧ (W.alloc (.cells x.ent.toArray 65)).rangeAt wc.heap.size 0 x.ent ∧ (W.alloc (.cells x.ent.toArray 65)).heap.size = wc.heap.size + 1) := hlit
          clear hlit
          refine wpAnyH_ready (rs := [7, 9]) (by kernel_rfl) (by simp) ?_
          refine AllReadyH.cons rfl (fun K hK => ?_) ?_
          · go_simp
            refine hK.out _ _ hHeld (fun _ => ?_)
            clear hK K
            try simp only [Act.put, List.setIfInBounds_toArray, List.set_cons_zero, List.set_cons_succ]
            refine wpAnyH_ready (rs := [9]) (by kernel_rfl) (by simp) ?_
            refine AllReadyH.cons rfl (fun K hK => ?_) AllReadyH.nil
            refine come_lit (by rfl) 51 65 _ rfl x.ent rfl ti _ Yba.underlying51 hti hz0 (by rw [hz1, hel]) (by omega) (by omega) ?_
            refine hK.out _ _ (World.rangeAt_alloc hHeld _) (fun _ => ?_)
            clear hK K
            try simp only [Act.put, List.setIfInBounds_toArray, List.set_cons_zero, List.set_cons_succ]
            refine gen_any (fun V => V.rangeAt eb 0 x.ent ∧ V.cell? ⟨w.heap.size + 1, 23 + x.bk, none⟩ = some v ∧ Below wc.heap.size wc V ∧ V.rangeAt wc.heap.size 0 x.ent ∧ V.heap.size = wc.heap.size + 1) (HLIT.out _ rfl) ?_
            rintro V ⟨hrV, hcV, hV, hnb, hzV⟩
            clear hHeld
            have hoV := own_keep (hR.own x.bk v hv) (w' := V) (fun g hg => (hV.block g (by have := (hlv g hg).2; omega)).trans (hkx g (hlv g hg).2))
            have hnl : (inB (es.take k) x.bk).length ≤ 65536 := by have := inB_le (es.take k) x.bk; rw [List.length_take] at this; omega
            refine wpAnyH_ready (rs := [10]) (by kernel_rfl) (by simp) ?_
            refine AllReadyH.cons rfl (fun K hK => ?_) AllReadyH.nil
            refine step_append_lies _ (by rfl) _ _ 51 (by rfl) (w.heap.size + 2) 65 ti _ 30 104 Yba.underlying51 hti hz0 hz1 hz2 (by decide) (by omega) v (inB (es.take k) x.bk).length ((inB (es.take k) x.bk).flatMap Ent.ent) (by rfl) hoV ⟨wc.heap.size, 0, none⟩ 1 1 x.ent (by rfl) (by rw [hel]) (fun j u hu => by rw [Addr.add_mid]; exact hnb j u hu) x.ent_one (by omega) (by simp [maxLen]; omega) (by omega) (by omega) (wc.heap.size + 1) hzV ?_
            intro g4 cp w4 ho4 hgr hat hg4
            have hk4 : ∀ g, g < wc.heap.size → some g ≠ v.ownBlock → w4.heap[g]? = wc.heap[g]? := fun g hg hne => (hgr.block g (by omega) hne).trans (hV.block g hg)
            have hne1 : some (w.heap.size + 1) ≠ v.ownBlock := fun e => by have := (hlv _ e.symm).1; omega
            have hne2 : some eb ≠ v.ownBlock := fun e => by have := (hlv _ e.symm).2; omega
            have hT4 := hTc.keep (hk4 _ (by omega) hne1)
            have hre4 : w4.rangeAt eb 0 x.ent := fun j u hu => (World.cell?_of_block (a := ⟨eb, 0 + j, none⟩) (hk4 eb hlt hne2)).trans (hre j u hu)
            have hc4 : w4.cell? ⟨w.heap.size + 1, 23 + x.bk, none⟩ = some v := hT4.bks x.bk v hv
            have hf4 : w4.frozen? ⟨w.heap.size + 1, 23 + x.bk, none⟩ = false := hT4.free _
            refine hK.out _ _ hre4 (fun hHeld => ?_)
            clear hK K
            try simp only [Act.put, List.setIfInBounds_toArray, List.set_cons_zero, List.set_cons_succ]
            refine take_val (i := 13) (dst := some 61) (v := .pointer (some ⟨w.heap.size + 1, 23 + x.bk, none⟩)) rfl rfl (by kernel_rfl) (by kernel_rfl) (by kernel_rfl) (fun _ _ _ h => h) (Or.inl ⟨by rfl, fun w' hSw => by (try dsimp only at hSw); clear hSw; go_simp⟩) hHeld ?_
            simp only [Act.put, List.setIfInBounds_toArray, List.set_cons_zero, List.set_cons_succ]
            refine wpAnyH_ready (rs := [14]) (by kernel_rfl) (by simp) ?_
            refine AllReadyH.cons rfl (fun K hK => ?_) AllReadyH.nil
            go_simp
            refine hK.out _ _ (rangeAt_set hre4 (by show eb ≠ w.heap.size + 1; omega)) (fun _ => ?_)
            clear hK K
            try simp only [Act.put, List.setIfInBounds_toArray, List.set_cons_zero, List.set_cons_succ]
            have hT5 := hT4.set hl x.bk (.slice (some ⟨g4, 0, none⟩) ((inB (es.take k) x.bk).length + 1) cp) (by omega)
            have hR5 := hR.step (x := x) (v' := .slice (some ⟨g4, 0, none⟩) ((inB (es.take k) x.bk).length + 1) cp) (w' := w4.setCell ⟨w.heap.size + 1, 23 + x.bk, none⟩ (.slice (some ⟨g4, 0, none⟩) ((inB (es.take k) x.bk).length + 1) cp)) hv
              (fun g hg hne hB => by rw [Go.Deep.blk_setCell_other _ _ _ _ (by show g ≠ w.heap.size + 1; omega), hk4 g (by omega) hne]; exact hkx g hg)
              (own_keep ho4 (fun g hg => by have := (ho4.lt g hg).1; exact Go.Deep.blk_setCell_other _ _ _ _ (by show g ≠ w.heap.size + 1; omega)))
              (by rcases hat with e | e; exact Or.inl e.symm; exact Or.inr ⟨g4, rfl, by omega⟩)
            rw [← take_succ' hx] at hR5
            have hb5 : Below (w.heap.size + 1) (w.alloc (.cells (self.map cell).toArray 40)) (w4.setCell ⟨w.heap.size + 1, 23 + x.bk, none⟩ (.slice (some ⟨g4, 0, none⟩) ((inB (es.take k) x.bk).length + 1) cp)) :=
              (below_grown (((hb.trans (hbA.mono (by omega))).trans (hbx.mono (by omega))).trans (hV.mono (by omega))) hgr (by omega) (fun q hq => by have := (hlv q hq).1; omega)).setCell (Nat.le_refl _) _
            have hbl5 : (bs.set x.bk (.slice (some ⟨g4, 0, none⟩) ((inB (es.take k) x.bk).length + 1) cp)).length = 160 := by rw [List.length_set]; exact hbl
            have HT5 : Hid (Tab (w4.setCell ⟨w.heap.size + 1, 23 + x.bk, none⟩ (.slice (some ⟨g4, 0, none⟩) ((inB (es.take k) x.bk).length + 1) cp)) (w.heap.size + 1) (self.map cell) q (bs.set x.bk (.slice (some ⟨g4, 0, none⟩) ((inB (es.take k) x.bk).length + 1) cp))) := hT5
            refine wpAnyH_done (by kernel_rfl) ?_ _
            clear hT4 hT5 hc4 hf4 hHeld hcv hfv
            go_wp2
            go_roundw
            case rel => first | exact ⟨k + 1, _, by omega, by go_num, hbl5, HT5.out, hR5, hb5⟩ | exact ⟨_, _, _, _, _, _, _, _, _, _, _, _, _, _, _, _, _, _, _, _, _, _, _, _, _, _, _, _, _, _, _, _, _, _, _, _, _, ⟨k + 1, _, by omega, by go_num, hbl5, HT5.out, hR5, hb5⟩, rfl⟩
            case measure => simp [intOf]; omega
          refine AllReadyH.cons rfl (fun K hK => ?_) AllReadyH.nil
          refine come_lit (by rfl) 51 65 _ rfl x.ent rfl ti _ Yba.underlying51 hti hz0 (by rw [hz1, hel]) (by omega) (by omega) ?_
          refine hK.out _ _ (World.rangeAt_alloc hHeld _) (fun _ => ?_)
          clear hK K
          try simp only [Act.put, List.setIfInBounds_toArray, List.set_cons_zero, List.set_cons_succ]
          refine gen_any (fun V => V.rangeAt eb 0 x.ent ∧ V.cell? ⟨w.heap.size + 1, 23 + x.bk, none⟩ = some v ∧ Below wc.heap.size wc V ∧ V.rangeAt wc.heap.size 0 x.ent ∧ V.heap.size = wc.heap.size + 1) (HLIT.out _ rfl) ?_
          rintro V ⟨hrV, hcV, hV, hnb, hzV⟩
          clear hHeld
          refine wpAnyH_ready (rs := [7]) (by kernel_rfl) (by simp) ?_
          refine AllReadyH.cons rfl (fun K hK => ?_) AllReadyH.nil
          go_simp
          refine hK.out _ _ hrV (fun _ => ?_)
          clear hK K
          try simp only [Act.put, List.setIfInBounds_toArray, List.set_cons_zero, List.set_cons_succ]
          have hoV := own_keep (hR.own x.bk v hv) (w' := V) (fun g hg => (hV.block g (by have := (hlv g hg).2; omega)).trans (hkx g (hlv g hg).2))
          have hnl : (inB (es.take k) x.bk).length ≤ 65536 := by have := inB_le (es.take k) x.bk; rw [List.length_take] at this; omega
          refine wpAnyH_ready (rs := [10]) (by kernel_rfl) (by simp) ?_
          refine AllReadyH.cons rfl (fun K hK => ?_) AllReadyH.nil
          refine step_append_lies _ (by rfl) _ _ 51 (by rfl) (w.heap.size + 2) 65 ti _ 30 104 Yba.underlying51 hti hz0 hz1 hz2 (by decide) (by omega) v (inB (es.take k) x.bk).length ((inB (es.take k) x.bk).flatMap Ent.ent) (by rfl) hoV ⟨wc.heap.size, 0, none⟩ 1 1 x.ent (by rfl) (by rw [hel]) (fun j u hu => by rw [Addr.add_mid]; exact hnb j u hu) x.ent_one (by omega) (by simp [maxLen]; omega) (by omega) (by omega) (wc.heap.size + 1) hzV ?_
          intro g4 cp w4 ho4 hgr hat hg4
          have hk4 : ∀ g, g < wc.heap.size → some g ≠ v.ownBlock → w4.heap[g]? = wc.heap[g]? := fun g hg hne => (hgr.block g (by omega) hne).trans (hV.block g hg)
          have hne1 : some (w.heap.size + 1) ≠ v.ownBlock := fun e => by have := (hlv _ e.symm).1; omega
          have hne2 : some eb ≠ v.ownBlock := fun e => by have := (hlv _ e.symm).2; omega
          have hT4 := hTc.keep (hk4 _ (by omega) hne1)
          have hre4 : w4.rangeAt eb 0 x.ent := fun j u hu => (World.cell?_of_block (a := ⟨eb, 0 + j, none⟩) (hk4 eb hlt hne2)).trans (hre j u hu)
          have hc4 : w4.cell? ⟨w.heap.size + 1, 23 + x.bk, none⟩ = some v := hT4.bks x.bk v hv
          have hf4 : w4.frozen? ⟨w.heap.size + 1, 23 + x.bk, none⟩ = false := hT4.free _
          refine hK.out _ _ hre4 (fun hHeld => ?_)
          clear hK K
          try simp only [Act.put, List.setIfInBounds_toArray, List.set_cons_zero, List.set_cons_succ]
          refine take_val (i := 13) (dst := some 61) (v := .pointer (some ⟨w.heap.size + 1, 23 + x.bk, none⟩)) rfl rfl (by kernel_rfl) (by kernel_rfl) (by kernel_rfl) (fun _ _ _ h => h) (Or.inl ⟨by rfl, fun w' hSw => by (try dsimp only at hSw); clear hSw; go_simp⟩) hHeld ?_
          simp only [Act.put, List.setIfInBounds_toArray, List.set_cons_zero, List.set_cons_succ]
          refine wpAnyH_ready (rs := [14]) (by kernel_rfl) (by simp) ?_
          refine AllReadyH.cons rfl (fun K hK => ?_) AllReadyH.nil
          go_simp
          refine hK.out _ _ (rangeAt_set hre4 (by show eb ≠ w.heap.size + 1; omega)) (fun _ => ?_)
          clear hK K
          try simp only [Act.put, List.setIfInBounds_toArray, List.set_cons_zero, List.set_cons_succ]
          have hT5 := hT4.set hl x.bk (.slice (some ⟨g4, 0, none⟩) ((inB (es.take k) x.bk).length + 1) cp) (by omega)
          have hR5 := hR.step (x := x) (v' := .slice (some ⟨g4, 0, none⟩) ((inB (es.take k) x.bk).length + 1) cp) (w' := w4.setCell ⟨w.heap.size + 1, 23 + x.bk, none⟩ (.slice (some ⟨g4, 0, none⟩) ((inB (es.take k) x.bk).length + 1) cp)) hv
            (fun g hg hne hB => by rw [Go.Deep.blk_setCell_other _ _ _ _ (by show g ≠ w.heap.size + 1; omega), hk4 g (by omega) hne]; exact hkx g hg)
            (own_keep ho4 (fun g hg => by have := (ho4.lt g hg).1; exact Go.Deep.blk_setCell_other _ _ _ _ (by show g ≠ w.heap.size + 1; omega)))
            (by rcases hat with e | e; exact Or.inl e.symm; exact Or.inr ⟨g4, rfl, by omega⟩)
          rw [← take_succ' hx] at hR5
          have hb5 : Below (w.heap.size + 1) (w.alloc (.cells (self.map cell).toArray 40)) (w4.setCell ⟨w.heap.size + 1, 23 + x.bk, none⟩ (.slice (some ⟨g4, 0, none⟩) ((inB (es.take k) x.bk).length + 1) cp)) :=
            (below_grown (((hb.trans (hbA.mono (by omega))).trans (hbx.mono (by omega))).trans (hV.mono (by omega))) hgr (by omega) (fun q hq => by have := (hlv q hq).1; omega)).setCell (Nat.le_refl _) _
          have hbl5 : (bs.set x.bk (.slice (some ⟨g4, 0, none⟩) ((inB (es.take k) x.bk).length + 1) cp)).length = 160 := by rw [List.length_set]; exact hbl
          have HT5 : Hid (Tab (w4.setCell ⟨w.heap.size + 1, 23 + x.bk, none⟩ (.slice (some ⟨g4, 0, none⟩) ((inB (es.take k) x.bk).length + 1) cp)) (w.heap.size + 1) (self.map cell) q (bs.set x.bk (.slice (some ⟨g4, 0, none⟩) ((inB (es.take k) x.bk).length + 1) cp))) := hT5
          refine wpAnyH_done (by kernel_rfl) ?_ _
          clear hT4 hT5 hc4 hf4 hHeld hcv hfv
          go_wp2
          go_roundw
          case rel => first | exact ⟨k + 1, _, by omega, by go_num, hbl5, HT5.out, hR5, hb5⟩ | exact ⟨_, _, _, _, _, _, _, _, _, _, _, _, _, _, _, _, _, _, _, _, _, _, _, _, _, _, _, _, _, _, _, _, _, _, _, _, _, ⟨k + 1, _, by omega, by go_num, hbl5, HT5.out, hR5, hb5⟩, rfl⟩
          case measure => simp [intOf]; omega
      · obtain rfl : k = es.length := by omega
        generalize hwY : wr = wY at *
        clear hwY
        rw [List.take_length] at hR
        have hbb : w.heap.size + 1 < wY.heap.size := hT.lt
        go_wp2_with fail
        refine gen_wp (fun wl => wl.rangeAt wY.heap.size 0 nil160 ∧ (∀ o, wl.frozen? ⟨wY.heap.size, o, none⟩ = false) ∧ Below wY.heap.size wY wl ∧ wY.heap.size < wl.heap.size) ?_ ?_
        · refine ⟨fun j v hj => ?_, fun o => ?_, (Below.refl _ _).alloc (Nat.le_refl _) _, by simp⟩
          · rw [Nat.zero_add, cell_of_row _ _ j _ _ _ (heap_alloc_new wY _)]; simpa using hj
          · unfold World.frozen?
            rw [show (⟨wY.heap.size, o, none⟩ : Addr).block = wY.heap.size from rfl, heap_alloc_new]; simp
        rintro wl0 ⟨hra0, hfr0, hbw0, hlt0⟩
        generalize hbbv : wY.heap.size = bb at *
        have hn160 : nil160.length = 160 := by rfl
        go_loopw [13] (fun j wl => ∃ (i : Nat) (cs : List Value), i ≤ 160 ∧ j = .int .i64 i ∧ cs.length = 160 ∧ wl.rangeAt bb 0 cs ∧ (∀ o, wl.frozen? ⟨bb, o, none⟩ = false) ∧ (∀ i' v, i' < i → cs[i']? = some v → wl.ownsRow (bb + 1) 65 30 v (inB es i').length ((inB es i').flatMap Ent.ent)) ∧ Below bb wY wl ∧ bb < wl.heap.size) (fun j _ => 160 - (intOf j).toNat)
        case atStart => exact ⟨0, nil160, by omega, rfl, hn160, hra0, hfr0, fun i' v h => absurd h (Nat.not_lt_zero _), hbw0, hlt0⟩
        case round =>
          obtain ⟨i, cs, hi, rfl, hcl, hrc, hfr, hown, hbl2, hltl⟩ := hrel
          have HW : Hid (∀ i' v, i' < i → cs[i']? = some v → wr.ownsRow (bb + 1) 65 30 v (inB es i').length ((inB es i').flatMap Ent.ent)) := hown
          have HF : Hid (∀ o, wr.frozen? ⟨bb, o, none⟩ = false) := hfr
          clear hown hfr hra0 hfr0 hbw0 hlt0
          have hT2 := hT.below hbl2 hbb
          have hR2 := hR.below (by rw [hbbv]; exact hbl2)
          by_cases hin : i < 160
          · obtain ⟨v, hv⟩ : ∃ v, bs[i]? = some v := ⟨_, List.getElem?_eq_getElem (by omega)⟩
            obtain ⟨u, hu⟩ : ∃ u, cs[i]? = some u := ⟨_, List.getElem?_eq_getElem (by omega)⟩
            have hcv : wr.cell? ⟨w.heap.size + 1, 23 + i, none⟩ = some v := hT2.bks i v hv
            have hcu : wr.cell? ⟨bb, i, none⟩ = some u := by simpa using hrc i u hu
            have hfu := HF.out i
            have hnl : (inB es i).length ≤ 65536 := by have := inB_le es i; omega
            have i0 : (0 : Int) ≤ (i : Int) := by omega
            have i1 : (i : Int) < 160 := by omega
            go_wp2_with fail
            refine (cloneE _ v _ _ wr (hR2.own i v hv) (flat_one Ent.ent_one _) hnl).mono ?_
            rintro e w2 ⟨v', rfl, hov, hb2⟩
            obtain ⟨a', n', c', hv'⟩ : ∃ a' n' c', v' = .slice a' n' c' := by
              rcases hov.2 with ⟨e, _⟩ | ⟨g, cp, cur, e, _⟩
              · exact ⟨_, _, _, e⟩
              · exact ⟨_, _, _, e⟩
            subst hv'
            have hcu2 : w2.cell? ⟨bb, i, none⟩ = some u := (hb2.cell (p := ⟨bb, i, none⟩) hltl).trans hcu
            have hfu2 : w2.frozen? ⟨bb, i, none⟩ = false := (hb2.frozen (p := ⟨bb, i, none⟩) hltl).trans hfu
            go_wp2_with fail
            go_roundw
            case rel =>
              refine ⟨i + 1, cs.set i (.slice a' n' c'), by omega, by go_num, by rw [List.length_set]; exact hcl, ?_, fun o => ?_, fun i' y hi' hy => ?_, ?_, ?_⟩
              · have := rangeAt_setAt (i := i) (v := .slice a' n' c') (rangeAt_below hb2 hltl hrc) (by omega)
                rwa [Nat.zero_add] at this
              · rw [World.frozen?_setCell]; exact (hb2.frozen (p := ⟨bb, o, none⟩) hltl).trans (HF.out o)
              · by_cases hii : i = i'
                · subst hii
                  rw [List.getElem?_set_self (by omega)] at hy
                  obtain rfl := Option.some.inj hy
                  refine own_keep (base := bb + 1) ?_ (fun g hg => Go.Deep.blk_setCell_other _ _ _ _ ?_)
                  · exact own_base hov (by omega)
                  · have := (hov.lt g hg).1
                    show g ≠ bb
                    omega
                · rw [List.getElem?_set_ne hii] at hy
                  have hoy := HW.out i' y (by omega) hy
                  refine own_keep hoy (fun g hg => ?_)
                  have hlg := hoy.lt g hg
                  rw [Go.Deep.blk_setCell_other _ _ _ _ (by show g ≠ bb; omega)]
                  exact hb2.block g hlg.2
              · exact (hbl2.trans (hb2.mono (by omega))).setCell (Nat.le_refl _) _
              · have := hb2.size; simp; omega
            case measure => simp [intOf]; omega
          · obtain rfl : i = 160 := by omega
            generalize hwZ : wr = wZ at *
            clear hwZ
            have hCon := contactsE (w.heap.size + 1) (w.heap.size + 2) bs es wZ HO.out hbig hT2.mu (hT2.free 21) hbl hT2.bks (by omega) hR2.own
            have hlz : w.heap.size + 1 < wZ.heap.size := by omega
            have HS : Hid (∀ W : World, Below wZ.heap.size wZ W → Calls Yba.prog 10 #[.pointer (some ⟨w.heap.size + 1, 0, none⟩), .pointer (some ⟨bb, 0, none⟩), .agg (self.map cell).toArray, .int .i64 q] W fun e w' => e = .returned (.bool true) ∧ Below W.heap.size W w') := fun W hW => by
              have hT3 := hT2.below hW hlz
              have hz3 := hW.size
              exact sameE (w.heap.size + 1) bb self q bs cs es W HO.out hbig hs (by omega) (by omega) hT3.self hT3.k hbl hcl hT3.bks (rangeAt_below hW hltl hrc) (fun i v hv => (hR2.row i v hv).below hW)
                (fun i v hv => (rowAt_own (HW.out i v (by have := (List.getElem?_eq_some_iff.1 hv).1; omega) hv)).below hW)
            have HA2 : Hid (∀ W : World, Below wZ.heap.size wZ W → 0 < es.length → ∃ be off, ad = some ⟨be, off, none⟩ ∧ W.rangeAt be off (es.flatMap Ent.cells)) := fun W hW h0 => by
              obtain ⟨be, off, e, hbe, hr⟩ := HA.out h0
              refine ⟨be, off, e, rangeAt_below hW (by omega) (rangeAt_below hbl2 (by omega) (rangeAt_below hb (by omega) (World.rangeAt_alloc hr _)))⟩
            have HSB : Hid (∀ W : World, Below wZ.heap.size wZ W → W.rangeAt w.heap.size 0 (self.map cell)) := fun W hW =>
              rangeAt_below hW (by omega) (rangeAt_below hbl2 (by omega) (rangeAt_below hb (by omega) hsr))
            have hbZ : Below w.heap.size w wZ := (((Below.refl _ _).alloc (Nat.le_refl _) _).trans (hb.mono (by omega))).trans (hbl2.mono (by omega))
            have q67 : ∀ (w : World) (a : Option Addr) (n c : Nat), (binOp .eql 67 (.slice a n c) (.slice none 0 0)).run Yba.prog w = .ok (.bool a.isNone) w := fun w a n c => Lib.run_eql_slice_nil w _ _ a n c 0 0 Yba.underlying67
            clear hbl2 hb hrc HW HF hT2 hR2 hT hR hsr hz52 hbt
            go_wp2_with fail
            refine hCon.mono ?_
            rintro e w3 ⟨rb, rfl, hrb0, hrb1, hrr, hth, hb3⟩
            clear hCon
            go_wp2_with fail
            have hup0 : (upTo es 0).length = 0 := by simp [upTo]
            go_loopw [15, 16] (fun jv bv wl => ∃ b : Nat, b ≤ 160 ∧ bv = .int .i64 b ∧ jv = .int .i64 ((upTo es b).length : Nat) ∧ Below w3.heap.size w3 wl) (fun _ bv _ => 160 - (intOf bv).toNat)
            case atStart => exact ⟨0, by omega, rfl, by rw [hup0]; rfl, Below.refl _ _⟩
            case round =>
              obtain ⟨b, hb160, rfl, rfl, hb4⟩ := hrel
              generalize hwQ : wr = wQ at *
              clear hwQ
              by_cases hbn : b < 160
              · have hus := upTo_succ es b
                have hul : (upTo es (b + 1)).length = (upTo es b).length + (inB es b).length := by rw [hus, List.length_append]
                have HUL : Hid ((upTo es (b + 1)).length = (upTo es b).length + (inB es b).length) := hul
                clear hus hul
                have hb88 : decide ((b : Int) < 160) = true := decide_eq_true (by omega)
                go_wp2_with fail
                try simp only [hb88]
                go_loopw [15, 93] (fun jv iv wl => ∃ i : Nat, i ≤ es.length ∧ iv = .int .i64 i ∧ jv = .int .i64 (((upTo es b).length + (inB (es.take i) b).length : Nat) : Int) ∧ Below w3.heap.size w3 wl) (fun _ iv _ => es.length - (intOf iv).toNat)
                case atStart => exact ⟨0, by omega, rfl, by simp [inB], hb4⟩
                case round =>
                  obtain ⟨i, hin, rfl, rfl, hb5⟩ := hrel
                  have hbZr : Below wZ.heap.size wZ wr := hb3.trans (hb5.mono hb3.size)
                  by_cases hie : i < es.length
                  · obtain ⟨be, off, rfl, har⟩ := HA2.out wr hbZr (by omega)
                    obtain ⟨x, hx⟩ : ∃ x, es[i]? = some x := ⟨_, List.getElem?_eq_getElem (by omega)⟩
                    have hxo := HO.out x (List.mem_of_getElem? hx)
                    have hxl := Ent.cells_length hxo
                    have f58 : (Yba.prog.info? 58).map (·.size) = some x.cells.length := by rw [hxl]; kernel_rfl
                    have f62 : (Yba.prog.info? 62).map (·.size) = some x.con.length := by rw [Ent.con_length hxo]; kernel_rfl
                    have r1 : wr.rangeAt be (off + i * 24) x.cells := flat_at (fun x hx => Ent.cells_length (HO.out x hx)) har hx
                    have hst : ∀ c : Array Value, c.size = 24 → (storeCells ⟨wr.heap.size, 0, none⟩ x.cells).run Yba.prog (wr.alloc (.cells c 58)) = .ok () ((wr.alloc (.cells c 58)).setCells wr.heap.size 0 x.cells) := fun c hc =>
                      stores _ _ _ x.cells_one _ (by rw [hxl]; exact there_new (by omega))
                    have hra : ∀ c : Array Value, c.size = 24 → ((wr.alloc (.cells c 58)).setCells wr.heap.size 0 x.cells).rangeAt wr.heap.size 0 x.cells := fun c hc =>
                      World.rangeAt_setCells_same (wr.alloc (.cells c 58)) wr.heap.size 0 x.cells (by rw [hxl]; exact there_new (by omega))
                    have hc0 : ∀ c : Array Value, c.size = 24 → ((wr.alloc (.cells c 58)).setCells wr.heap.size 0 x.cells).cell? ⟨wr.heap.size, 0, none⟩ = some (.int .u8 x.b) := fun c hc => by
                      have := hra c hc 0 (.int .u8 x.b) rfl
                      simpa using this
                    have hb0 := hxo.1
                    have hbm : x.b % 160 = (x.bk : Int) := by unfold Ent.bk; omega
                    have HRA : Hid (∀ c : Array Value, c.size = 24 → ((wr.alloc (.cells c 58)).setCells wr.heap.size 0 x.cells).rangeAt wr.heap.size 0 x.cells) := hra
                    have hbe6 : ∀ c : Array Value, Below w3.heap.size w3 ((wr.alloc (.cells c 58)).setCells wr.heap.size 0 x.cells) := fun c => below_setCells (hb5.alloc hb5.size _) hb5.size _ _
                    have HB6 : Hid (∀ c : Array Value, Below w3.heap.size w3 ((wr.alloc (.cells c 58)).setCells wr.heap.size 0 x.cells)) := hbe6
                    clear hra hbe6 har
                    have hsn := inB_snoc (es.take i) x b
                    rw [← take_succ' hx] at hsn
                    have HSN : Hid (inB (es.take (i + 1)) b = if x.bk = b then inB (es.take i) b ++ [x] else inB (es.take i) b) := hsn
                    clear hsn
                    by_cases hxb : x.bk = b
                    · have hnx := next_at hbn hx hxb
                      have hne : ((x.bk : Int) != (b : Int)) = false := by rw [hxb]; simp
                      have hJl := (List.getElem?_eq_some_iff.1 hnx).1
                      rw [upTo_len] at hJl
                      have r2 : w3.rangeAt rb (((upTo es b).length + (inB (es.take i) b).length) * 24) x.con := by
                        have := flat_at (fun x hx => Ent.con_length (upTo_ok HO.out 160 x hx)) hrr hnx
                        rwa [Nat.zero_add] at this
                      have HSJ : Hid ((upTo es b).length + (inB (es.take (i + 1)) b).length = (upTo es b).length + (inB (es.take i) b).length + 1) := by
                        show _ = _
                        rw [HSN.out, if_pos hxb, List.length_append]; rfl
                      clear hnx HSN
                      generalize hJ : (upTo es b).length + (inB (es.take i) b).length = J at *
                      have j0 : (0 : Int) ≤ (J : Int) := by omega
                      have j1 : (J : Int) < (es.length : Int) := by omega
                      have j2 : ¬ ((es.length : Int) ≤ (J : Int)) := by omega
                      have he62 : ∀ W : World, (Op.equalIn 10000 62 (.agg x.con.toArray) (.agg x.con.toArray)).run Yba.prog W = .ok true W := fun W => eq62 W 9992 x hxo
                      go_wp2_with (first
                        | (refine wpList_load_mid rfl 58 _ rfl be (off + i * 24) rfl x.cells _ r1 Yba.underlying58 rfl f58 ?_))
                      refine gen_wp (fun wA => wA.rangeAt wr.heap.size 0 x.cells ∧ Below w3.heap.size w3 wA) ⟨HRA.out _ rfl, HB6.out _⟩ ?_
                      rintro wA ⟨hxA, hbA⟩
                      have hrA := rangeAt_below hbA hrb1 r2
                      clear hst hc0 HRA r1
                      refine wp_region_held_drew (S := fun W => W.rangeAt wr.heap.size 0 x.cells ∧ W.rangeAt rb (J * 24) x.con) (by kernel_rfl) (by exact ⟨hxA, hrA⟩) (fun hHeld => ?_)
                      refine take_val (i := 0) (dst := some 103) (v := .int .i64 J) rfl rfl (by kernel_rfl) (by kernel_rfl) (by kernel_rfl) (fun _ _ _ h => h) (yields_move (by rfl) _ rfl rfl) hHeld ?_
                      simp only [Act.put, List.setIfInBounds_toArray, List.set_cons_zero, List.set_cons_succ]
                      refine take_val (i := 1) (dst := some 104) (v := .slice (some ⟨rb, 0, none⟩) es.length es.length) rfl rfl (by kernel_rfl) (by kernel_rfl) (by kernel_rfl) (fun _ _ _ h => h) (yields_move (by rfl) _ rfl rfl) hHeld ?_
                      simp only [Act.put, List.setIfInBounds_toArray, List.set_cons_zero, List.set_cons_succ]
                      refine take_val (i := 2) (dst := some 105) (v := .int .i64 es.length) rfl rfl (by kernel_rfl) (by kernel_rfl) (by kernel_rfl) (fun _ _ _ h => h) (Or.inl ⟨by rfl, fun w' hSw => by (try dsimp only at hSw); clear hSw; go_simp⟩) hHeld ?_
                      simp only [Act.put, List.setIfInBounds_toArray, List.set_cons_zero, List.set_cons_succ]
                      refine take_val (i := 3) (dst := some 106) (v := .bool false) rfl rfl (by kernel_rfl) (by kernel_rfl) (by kernel_rfl) (fun _ _ _ h => h) (Or.inl ⟨by rfl, fun w' hSw => by (try dsimp only at hSw); clear hSw; go_simp⟩) hHeld ?_
                      simp only [Act.put, List.setIfInBounds_toArray, List.set_cons_zero, List.set_cons_succ]
                      refine take_val (i := 4) (dst := some 107) (v := .bool false) rfl rfl (by kernel_rfl) (by kernel_rfl) (by kernel_rfl) (fun _ _ _ h => h) (yields_move (by rfl) _ rfl rfl) hHeld ?_
                      simp only [Act.put, List.setIfInBounds_toArray, List.set_cons_zero, List.set_cons_succ]
                      refine take_val (i := 5) (dst := some 108) (v := .slice (some ⟨rb, 0, none⟩) es.length es.length) rfl rfl (by kernel_rfl) (by kernel_rfl) (by kernel_rfl) (fun _ _ _ h => h) (yields_move (by rfl) _ rfl rfl) hHeld ?_
                      simp only [Act.put, List.setIfInBounds_toArray, List.set_cons_zero, List.set_cons_succ]
                      refine take_val (i := 6) (dst := some 109) (v := .int .i64 J) rfl rfl (by kernel_rfl) (by kernel_rfl) (by kernel_rfl) (fun _ _ _ h => h) (yields_move (by rfl) _ rfl rfl) hHeld ?_
                      simp only [Act.put, List.setIfInBounds_toArray, List.set_cons_zero, List.set_cons_succ]
                      refine take_val (i := 7) (dst := some 110) (v := .pointer (some ⟨rb, J * 24, none⟩)) rfl rfl (by kernel_rfl) (by kernel_rfl) (by kernel_rfl) (fun _ _ _ h => h) (Or.inl ⟨by rfl, fun w' hSw => by (try dsimp only at hSw); clear hSw; go_simp⟩) hHeld ?_
                      simp only [Act.put, List.setIfInBounds_toArray, List.set_cons_zero, List.set_cons_succ]
                      refine take_val (i := 8) (dst := some 111) (v := .agg x.con.toArray) rfl rfl (by kernel_rfl) (by kernel_rfl) (by kernel_rfl) (fun _ _ _ h => h) (yieldsIf_load_mid (by rfl) 62 (.tmp 110) rfl rb (J * 24) rfl x.con _ (fun _ h => h.2) Yba.underlying62 rfl f62) hHeld ?_
                      simp only [Act.put, List.setIfInBounds_toArray, List.set_cons_zero, List.set_cons_succ]
                      refine take_val (i := 9) (dst := some 112) (v := .agg x.cells.toArray) rfl rfl (by kernel_rfl) (by kernel_rfl) (by kernel_rfl) (fun _ _ _ h => h) (yieldsIf_load_mid (by rfl) 58 (.tmp 18) rfl wr.heap.size 0 rfl x.cells _ (fun _ h => h.1) Yba.underlying58 rfl f58) hHeld ?_
                      simp only [Act.put, List.setIfInBounds_toArray, List.set_cons_zero, List.set_cons_succ]
                      refine wpAnyH_ready (rs := [10]) (by kernel_rfl) (by simp) ?_
                      refine AllReadyH.cons rfl (fun K hK => ?_) AllReadyH.nil
                      go_simp
                      refine (contact_any x hxo _).mono ?_
                      rintro e w7 ⟨rfl, hb7⟩
                      have hcA : wA.cell? ⟨wr.heap.size, 0, none⟩ = some (.int .u8 x.b) := by simpa using hxA 0 (.int .u8 x.b) rfl
                      have hlA : wr.heap.size < wA.heap.size := World.block_lt_of_cell? wA _ hcA
                      have hbn7 : Below w3.heap.size w3 w7 := hbA.drew.trans (hb7.mono hbA.size)
                      have hx7 : w7.rangeAt wr.heap.size 0 x.cells := rangeAt_below hb7 hlA hxA
                      have hr7 : w7.rangeAt rb (J * 24) x.con := rangeAt_below hbn7 hrb1 r2
                      refine hK.out _ _ ⟨hx7, hr7⟩ (fun hHeld7 => ?_)
                      clear hK K
                      try simp only [Act.put, List.setIfInBounds_toArray, List.set_cons_zero, List.set_cons_succ]
                      refine take_val (i := 11) (dst := some 114) (v := .bool (!true)) rfl rfl (by kernel_rfl) (by kernel_rfl) (by kernel_rfl) (fun _ _ _ h => h) (yields_neq (by rfl) 62 _ _ 62 rfl _ _ rfl rfl Yba.eqGuardType62 true (fun w' _ => he62 w')) hHeld7 ?_
                      simp only [Act.put, List.setIfInBounds_toArray, List.set_cons_zero, List.set_cons_succ]
                      refine take_val (i := 12) (dst := some 115) (v := .bool false) rfl rfl (by kernel_rfl) (by kernel_rfl) (by kernel_rfl) (fun _ _ _ h => h) (Or.inl ⟨by rfl, fun w' hSw => by (try dsimp only at hSw); clear hSw; go_simp⟩) hHeld7 ?_
                      simp only [Act.put, List.setIfInBounds_toArray, List.set_cons_zero, List.set_cons_succ]
                      refine wpAnyH_done (by kernel_rfl) ?_ _
                      clear hHeld hHeld7 hx7 hr7 hxA hrA r2
                      go_wp2
                      go_roundw
                      case rel => first | exact ⟨i + 1, by omega, by go_num, by rw [HSJ.out]; go_num, hbn7⟩ | exact ⟨_, _, _, _, _, _, _, _, _, _, _, _, _, _, _, _, _, _, _, _, _, _, _, _, _, _, _, _, _, ⟨i + 1, by omega, by go_num, by rw [HSJ.out], hbn7⟩, rfl⟩
                      case measure => simp [intOf]; omega
                    · have hne : ((x.bk : Int) != (b : Int)) = true := by simp; omega
                      have HSJ : Hid ((upTo es b).length + (inB (es.take (i + 1)) b).length = (upTo es b).length + (inB (es.take i) b).length) := by
                        show _ = _
                        rw [HSN.out, if_neg hxb]
                      clear HSN
                      generalize hJ : (upTo es b).length + (inB (es.take i) b).length = J at *
                      go_wp2_with (first
                        | (refine wpList_load_mid rfl 58 _ rfl be (off + i * 24) rfl x.cells _ r1 Yba.underlying58 rfl f58 ?_))
                      go_roundw
                      case rel => first | exact ⟨i + 1, by omega, by go_num, by rw [HSJ.out], HB6.out _⟩ | exact ⟨_, _, _, _, _, _, _, _, _, _, _, _, _, _, _, _, _, _, _, _, _, _, _, _, _, _, _, _, _, ⟨i + 1, by omega, by go_num, by rw [HSJ.out], HB6.out _⟩, rfl⟩
                      case measure => simp [intOf]; omega
                  · obtain rfl : i = es.length := by omega
                    have HUL2 : Hid ((upTo es b).length + (inB (es.take es.length) b).length = (upTo es (b + 1)).length) := by
                      show _ = _
                      rw [List.take_length]; exact HUL.out.symm
                    generalize hJ : (upTo es b).length + (inB (es.take es.length) b).length = J at *
                    go_wp2
                    go_roundw
                    case rel => exact ⟨b + 1, by omega, by go_num, by rw [HUL2.out], hb5⟩
                    case measure => simp [intOf]; omega
              · obtain rfl : b = 160 := by omega
                have hue := upTo_len es
                rw [hue]
                go_wp2_with (first
                  | (refine wpList_load_mid rfl 40 _ rfl w.heap.size 0 rfl (self.map cell) _ (HSB.out wQ (hb3.trans (hb4.mono hb3.size))) Yba.underlying40 rfl f40 ?_))
                refine (HS.out wQ (hb3.trans (hb4.mono hb3.size))).mono ?_
                rintro e w5 ⟨rfl, hb5⟩
                have hb45 : Below w3.heap.size w3 w5 := hb4.trans (hb5.mono hb4.size)
                have hth5 := there_below hb45 hrb1 hth
                go_wp2_with fail
                go_loopw [130] (fun iv wl => ∃ i : Nat, i ≤ es.length ∧ iv = .int .i64 i ∧ wl.there rb 0 (es.length * 24) ∧ Below wZ.heap.size wZ wl) (fun iv _ => es.length - (intOf iv).toNat)
                case atStart => exact ⟨0, by omega, rfl, hth5, hb3.trans (hb45.mono hb3.size)⟩
                case round =>
                  obtain ⟨i, hin, rfl, hthr, hbr⟩ := hrel
                  by_cases hie : i < es.length
                  · have ht24 : wr.there rb (i * 24) zcon.toArray.size := there_sub hthr (by rw [List.size_toArray, zcon_length]; omega)
                    have f62 : (Yba.prog.info? 62).map (·.size) = some zcon.toArray.size := by rw [List.size_toArray, zcon_length]; kernel_rfl
                    have i0 : (0 : Int) ≤ (i : Int) := by omega
                    have i1 : (i : Int) < (es.length : Int) := by omega
                    go_wp2_with (first
                      | (refine wpList_build_run rfl 62 _ rfl #[] rfl _ build_zero ?_)
                      | (refine wpList_store_mid rfl 62 (.tmp 136) (.tmp 135) rfl rb (i * 24) zcon.toArray rfl rfl ?ht ?hi ?h1 ?_))
                    case ht => exact ht24
                    case hi => exact f62
                    case h1 => exact zcon_one
                    refine ⟨⟨i + 1, by omega, by go_num, World.there_setCells hthr _ _ _, below_setCells hbr hrb0 _ _⟩, ?_⟩
                    simp [intOf]; omega
                  · go_wp2_with (first
                      | (refine wpList_load_mid rfl 40 _ rfl w.heap.size 0 rfl (self.map cell) _ (HSB.out wr hbr) Yba.underlying40 rfl f40 ?_))
                    refine (HS.out wr hbr).mono ?_
                    rintro e w9 ⟨rfl, hb9⟩
                    go_wp2_with fail
                    go_ret
                    exact ⟨rfl, (hbZ.trans (hbr.mono hbZ.size)).trans (hb9.mono (Nat.le_trans hbZ.size hbr.size))⟩
  · go_enter Yba.func4, Yba.ntmps4
    go_wp2
    go_ret
    exact ⟨rfl, (Below.refl _ _).alloc (Nat.le_refl _) _⟩
end Go.Proofs.Ybulkdvwe
