import Derived.Test.YbulkdvweEntries
namespace Go.Proofs.Ybulkdvwe
open Go.RowKit
set_option linter.unusedSimpArgs false

theorem info62 : ∃ i, Yba.prog.info? 62 = some i ∧ i.zero = some (.agg (z20 ++ z4).toArray) ∧ i.size = 24 ∧ i.bytes = 56 := by
  have h : (Yba.prog.info? 62).map (fun i => (i.zero, i.size, i.bytes)) = some (some (.agg (z20 ++ z4).toArray), 24, 56) := by kernel_rfl
  cases hi : Yba.prog.info? 62 with
  | none => rw [hi] at h; cases h
  | some i =>
    rw [hi] at h
    simp only [Option.map_some, Option.some.injEq, Prod.mk.injEq] at h
    exact ⟨i, rfl, h.1, h.2.1, h.2.2⟩
theorem own_there {w : World} {base : Nat} {e : TypeId} {size n cap g : Nat} {xs : List Value} (h : w.ownsRow base e size (.slice (some ⟨g, 0, none⟩) n cap) n xs) : w.there g 0 (n * size) := by
  rcases h.2 with ⟨hv, _⟩ | ⟨g', cap', cur, hv, hb, hg, hnc, hcm, hcs, htake⟩
  · cases hv
  · injection hv with h1 h2 h3
    injection h1 with h1
    injection h1 with h1
    subst h1 h3
    intro j hj
    rw [Nat.zero_add]
    have hlt : j < cur.size := by rw [hcs]; exact Nat.lt_of_lt_of_le hj (Nat.mul_le_mul_right _ hnc)
    refine ⟨?_, ?_⟩
    · rw [cell_of_row _ _ j _ _ _ hg, Array.getElem?_eq_getElem hlt]; rfl
    · unfold World.frozen?
      rw [show (⟨g, j, none⟩ : Addr).block = g from rfl, hg]; simp

set_option maxRecDepth 20000 in
set_option maxHeartbeats 2000000 in
/-- Table.Contacts -/
theorem contactsE (tb B : Nat) (bs : List Value) (es : List Ent) (w : World) (hok : ∀ x ∈ es, x.ok) (hL : es.length ≤ 65536)
    (hmu : w.cell? ⟨tb, 21, none⟩ = some (.int .i32 0)) (hfz : w.frozen? ⟨tb, 21, none⟩ = false) (hbl : bs.length = 160) (hbk : w.rangeAt tb 23 bs) (hB : tb < B)
    (hrow : ∀ i v, bs[i]? = some v → w.ownsRow B 65 30 v (inB es i).length ((inB es i).flatMap Ent.ent)) :
    Calls Yba.prog 9 #[.pointer (some ⟨tb, 0, none⟩)] w fun e w' => ∃ rb, e = .returned (.slice (some ⟨rb, 0, none⟩) es.length es.length) ∧ w.heap.size ≤ rb ∧ rb < w'.heap.size ∧
      w'.rangeAt rb 0 ((upTo es 160).flatMap Ent.con) ∧ w'.there rb 0 (es.length * 24) ∧ Below w.heap.size w w' := by
  have HE := entriesE tb B bs es w hok hL hmu hfz hbl hbk hB hrow
  have hlu := upTo_len es
  have hoku := upTo_ok hok 160
  obtain ⟨i, hi, hz0, hz1, hz2⟩ := info62
  clear hbk hrow hmu hfz hbl hB
  generalize upTo es 160 = L at *
  generalize hn : es.length = n at *
  have HO : Hid (∀ x ∈ L, x.ok) := hoku
  clear hoku hok hn
  go_enter Yba.func9, Yba.ntmps9
  go_wp2_with fail
  refine HE.mono ?_
  rintro e w1 ⟨v, rfl, hown, hb1⟩
  obtain ⟨a0, cap, rfl, hrow⟩ : ∃ a0 cap, v = .slice a0 n cap ∧ (0 < n → ∃ g, a0 = some ⟨g, 0, none⟩ ∧ g < w1.heap.size ∧ w1.rangeAt g 0 (L.flatMap Ent.ent)) := by
    rcases hown.2 with ⟨rfl, rfl⟩ | ⟨g, cap, cur, rfl, hb, hg, hnc, hcm, hcs, htake⟩
    · exact ⟨none, 0, rfl, fun h => absurd h (Nat.lt_irrefl 0)⟩
    · exact ⟨_, cap, rfl, fun _ => ⟨g, rfl, (hown.lt g rfl).2, own_range hown rfl⟩⟩
  clear HE hown
  go_wp2_with (refine wpList_make_full _ rfl _ _ 67 rfl w1.heap.size 62 i _ 24 Yba.underlying67 hi hz0 hz1 _ _ _ _ n rfl rfl rfl rfl (by rw [hz2]; omega) (by simp [maxLen]; omega) (Nat.le_refl _) ?_; intro w2 hown2 hgr2)
  have hth := own_there hown2
  have hlt2 := (hown2.lt w1.heap.size rfl).2
  have hb2 : Below w1.heap.size w1 w2 := below_grown (Below.refl _ _) hgr2 (Nat.le_refl _) (fun k hk => by cases hk)
  clear hown2 hgr2
  generalize hrb : w1.heap.size = rb at *
  go_loopw [14] (fun j wr => ∃ k : Nat, k ≤ n ∧ j = .int .i64 k ∧ wr.rangeAt rb 0 ((L.take k).flatMap Ent.con) ∧ wr.there rb 0 (n * 24) ∧ rb < wr.heap.size ∧ Below rb w1 wr) (fun j _ => n - (intOf j).toNat)
  case atStart => exact ⟨0, by omega, rfl, fun j v hj => by simp at hj, hth, hlt2, hb2⟩
  case round =>
    obtain ⟨k, hk, rfl, hra, hthr, hlt, hb⟩ := hrel
    by_cases hkn : k < n
    · obtain ⟨g, rfl, hg, hr⟩ := hrow (by omega)
      obtain ⟨x, hx⟩ : ∃ x, L[k]? = some x := ⟨_, List.getElem?_eq_getElem (by omega)⟩
      have hxo := HO.out x (List.mem_of_getElem? hx)
      have r1 := rangeAt_below hb hg (flat_at (fun x hx => Ent.ent_length (HO.out x hx)) hr hx)
      rw [Nat.zero_add] at r1
      have hel := Ent.ent_length hxo
      have hcl := Ent.con_length hxo
      have f65 : (Yba.prog.info? 65).map (·.size) = some x.ent.length := by rw [hel]; kernel_rfl
      have f62 : (Yba.prog.info? 62).map (·.size) = some x.con.length := by rw [hcl]; kernel_rfl
      have hC : ∀ c : Array Value, c.size = 30 → ((wr.alloc (.cells c 65)).setCells wr.heap.size 0 x.ent).rangeAt wr.heap.size 0 x.con := fun c hc => by
        have := World.rangeAt_setCells_same (wr.alloc (.cells c 65)) wr.heap.size 0 x.ent (by rw [hel]; exact there_new (by omega))
        exact rangeAt_left (xs := x.con) this
      have hD : ∀ c : Array Value, c.size = 30 → ((wr.alloc (.cells c 65)).setCells wr.heap.size 0 x.ent).there rb (k * 24) 24 := fun c hc =>
        World.there_setCells (there_sub (World.there_alloc hthr _) (by omega)) _ _ _
      have hst : ∀ c : Array Value, c.size = 30 → (storeCells ⟨wr.heap.size, 0, none⟩ x.ent).run Yba.prog (wr.alloc (.cells c 65)) = .ok () ((wr.alloc (.cells c 65)).setCells wr.heap.size 0 x.ent) := fun c hc =>
        stores _ _ _ x.ent_one _ (by rw [hel]; exact there_new (by omega))
      have hst2 : ∀ c : Array Value, c.size = 30 → (storeCells ⟨rb, k * 24, none⟩ x.con).run Yba.prog ((wr.alloc (.cells c 65)).setCells wr.heap.size 0 x.ent) = .ok () (((wr.alloc (.cells c 65)).setCells wr.heap.size 0 x.ent).setCells rb (k * 24) x.con) := fun c hc =>
        stores _ _ _ x.con_one _ (by rw [hcl]; exact hD c hc)
      have hE : ∀ c : Array Value, c.size = 30 → (((wr.alloc (.cells c 65)).setCells wr.heap.size 0 x.ent).setCells rb (k * 24) x.con).rangeAt rb 0 ((L.take (k + 1)).flatMap Ent.con) ∧ (((wr.alloc (.cells c 65)).setCells wr.heap.size 0 x.ent).setCells rb (k * 24) x.con).there rb 0 (n * 24) ∧ rb < (((wr.alloc (.cells c 65)).setCells wr.heap.size 0 x.ent).setCells rb (k * 24) x.con).heap.size ∧ Below rb w1 (((wr.alloc (.cells c 65)).setCells wr.heap.size 0 x.ent).setCells rb (k * 24) x.con) := fun c hc => by
        have hfl : ((L.take k).flatMap Ent.con).length = k * 24 := by
          rw [flat_length (fun x hx => Ent.con_length (HO.out x (List.mem_of_mem_take hx))), List.length_take, Nat.min_eq_left (by omega)]
        refine ⟨?_, World.there_setCells (World.there_setCells (World.there_alloc hthr _) _ _ _) _ _ _, by rw [size_setCells, size_setCells]; simp; omega, ?_⟩
        · rw [take_succ' hx, List.flatMap_append]
          refine rangeAt_join ?_ ?_
          · refine World.rangeAt_setCells_apart ?_ _ _ _ (by omega)
            exact World.rangeAt_setCells_apart (World.rangeAt_alloc hra _) _ _ _ (Or.inl (by omega))
          · rw [hfl, Nat.zero_add]
            simp only [List.flatMap_cons, List.flatMap_nil, List.append_nil]
            exact World.rangeAt_setCells_same _ _ _ _ (by rw [hcl]; exact hD c hc)
        · exact below_setCells (below_setCells (hb.alloc (by omega) _) (by omega) _ _) (Nat.le_refl _) _ _
      have HD : Hid (∀ c : Array Value, c.size = 30 → (((wr.alloc (.cells c 65)).setCells wr.heap.size 0 x.ent).setCells rb (k * 24) x.con).rangeAt rb 0 ((L.take (k + 1)).flatMap Ent.con) ∧ (((wr.alloc (.cells c 65)).setCells wr.heap.size 0 x.ent).setCells rb (k * 24) x.con).there rb 0 (n * 24) ∧ rb < (((wr.alloc (.cells c 65)).setCells wr.heap.size 0 x.ent).setCells rb (k * 24) x.con).heap.size ∧ Below rb w1 (((wr.alloc (.cells c 65)).setCells wr.heap.size 0 x.ent).setCells rb (k * 24) x.con)) := hE
      clear hE hD
      go_wp2_with (first
        | (refine wpList_load_mid rfl 65 _ rfl g (k * 30) rfl x.ent _ r1 Yba.underlying65 rfl f65 ?_)
        | (refine wpList_load_mid rfl 62 _ rfl wr.heap.size 0 rfl x.con _ (hC _ rfl) Yba.underlying62 rfl f62 ?_))
      refine ⟨⟨k + 1, by omega, by go_num, HD.out _ rfl⟩, ?_⟩
      simp [intOf]; omega
    · obtain rfl : k = n := by omega
      have htk : L.take k = L := List.take_of_length_le (by omega)
      rw [htk] at hra
      go_wp2
      go_ret
      exact ⟨rb, rfl, by rw [← hrb]; exact hb1.size, hlt, hra, hthr, hb1.trans (hb.mono (by rw [← hrb]; exact hb1.size))⟩
end Go.Proofs.Ybulkdvwe
