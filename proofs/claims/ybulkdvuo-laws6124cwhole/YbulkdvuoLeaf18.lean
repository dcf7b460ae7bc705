import Derived.Test.YbulkdvuoKit
namespace Go.Proofs.Ybulkdvuo
open Go.RowKit
set_option linter.unusedSimpArgs false

/-- the cells of one ID, of a list of them -/
def tc (t : Tri) : List Value := [.int .i64 t.1, .int .i64 t.2.1, .int .i64 t.2.2]
def tcs (l : List Tri) : List Value := l.flatMap tc
theorem tcs_length (l : List Tri) : (tcs l).length = l.length * 3 := by
  induction l with
  | nil => rfl
  | cons t r ih => simp only [tcs, List.flatMap_cons, List.length_append, List.length_cons] at ih ⊢; rw [ih]; simp [tc]; omega
theorem tcs_one (l : List Tri) : ∀ v ∈ tcs l, v.oneCell' = true := by
  intro v hv
  obtain ⟨t, _, ht⟩ := List.mem_flatMap.1 hv
  simp [tc] at ht
  rcases ht with rfl | rfl | rfl <;> rfl
theorem tcs_append (a b : List Tri) : tcs (a ++ b) = tcs a ++ tcs b := List.flatMap_append
theorem idsAt_of {w : World} {g : Nat} : ∀ {l : List Tri} {o : Nat}, w.rangeAt g o (tcs l) → IdsAt w g o l := by
  intro l
  induction l with
  | nil => intro o _ i hi; simp at hi
  | cons t r ih =>
    intro o h i hi
    have h' : w.rangeAt g o (tc t ++ tcs r) := h
    have h1 := rangeAt_left h'
    have h2 := ih (rangeAt_right h')
    cases i with
    | zero =>
      have e0 := h1 0 _ rfl
      have e1 := h1 1 _ rfl
      have e2 := h1 2 _ rfl
      refine ⟨by simpa using e0, by simpa using e1, by simpa using e2⟩
    | succ i =>
      have h3 := h2 i (by simpa using hi)
      have e : o + (tc t).length + i * 3 = o + (i + 1) * 3 := by simp [tc]; omega
      rw [e] at h3
      simpa using h3
theorem info86 : ∃ i, Yba.prog.info? 86 = some i ∧ i.zero = some (.agg #[.int .i64 0, .int .i64 0, .int .i64 0]) ∧ i.size = 3 ∧ i.bytes = 24 := by
  have h : (Yba.prog.info? 86).map (fun i => (i.zero, i.size, i.bytes)) = some (some (.agg #[.int .i64 0, .int .i64 0, .int .i64 0]), 3, 24) := by kernel_rfl
  cases hi : Yba.prog.info? 86 with
  | none => rw [hi] at h; cases h
  | some i =>
    rw [hi] at h
    simp only [Option.map_some, Option.some.injEq, Prod.mk.injEq] at h
    exact ⟨i, rfl, h.1, h.2.1, h.2.2⟩

set_option maxRecDepth 20000 in
set_option maxHeartbeats 2000000 in
/-- Member.missing -/
theorem missing_any (mb hb ab rb : Nat) (es : Array MapEntry) (ck : Nat) (held ids : List Tri) (f : Tri → Tri) (nl : Nat) (w : World) (hA : Ak w mb hb ab rb es ck ids nl) (hH : HeldAs es ck hb held f) (hm : mb ≠ ab) (hr : rb ≠ ab) (hhb : hb ≠ ab) (hn : nl ≤ ids.length) (hl : ids.length ≤ 1000000) :
    Calls Yba.prog 14 #[.pointer (some ⟨mb, 0, none⟩), .pointer (some ⟨ab, 0, none⟩)] w fun e w' => ∃ v', e = .returned v' ∧ w'.ownsRow w.heap.size 86 3 v' (lackedFrom held ids (adv held ids nl)).length (tcs (lackedFrom held ids (adv held ids nl))) ∧ Below w.heap.size (w.setCell ⟨ab, 15, none⟩ (.int .i64 (adv held ids nl))) w' := by
  have HA : Hid (Ak w mb hb ab rb es ck ids nl) := hA
  have HH : Hid (HeldAs es ck hb held f) := hH
  clear hA hH
  go_enter Yba.func14, Yba.ntmps14
  go_upto_block 0 with fail
  go_cut [] from 8 to 41 (fun wx => ∃ (k : Nat), k ≤ ids.length ∧ Hid (Ak wx mb hb ab rb es ck ids k) ∧ Hid (adv held ids nl = k) ∧ Hid (Below w.heap.size (w.setCell ⟨ab, 15, none⟩ (.int .i64 k)) wx))
  case rest =>
    obtain ⟨k, hk, HK, HV, HB⟩ := hcut
    have q0 := HK.out.a1
    have q1 := HK.out.a15
    have i0 : (0 : Int) ≤ (k : Int) := by omega
    have i1 : (k : Int) ≤ (ids.length : Int) := by omega
    have hsz : w.heap.size ≤ wc.heap.size := by have := HB.out.size; simpa using this
    by_cases hke : k = ids.length
    · have HL : Hid (lackedFrom held ids (adv held ids nl) = []) := by
        show _ = _
        rw [HV.out]; unfold lackedFrom; rw [List.drop_of_length_le (by omega)]; rfl
      subst hke
      go_wp2_with fail
      go_quiet (fail)
      go_wp2_with fail
      go_loopw [5, 53] (fun acc i wr => acc = .slice none 0 0 ∧ i = .int .i64 0 ∧ wr = wc.drewN nq) (fun _ _ _ => 0)
      case atStart => exact ⟨rfl, rfl, rfl⟩
      case round =>
        obtain ⟨rfl, rfl, rfl⟩ := hrel
        go_wp2
        go_ret
        refine ⟨_, rfl, ?_, ?_⟩
        · rw [HL.out]; exact World.ownsRow_nil _ _ _ _
        · rw [HV.out]; exact bdrewN HB.out _
    · have hkl : k < ids.length := by omega
      have hne : ¬ (ids.length = k) := by omega
      have hlen : (ids.drop k).length = ids.length - k := List.length_drop
      obtain ⟨ti, hti, hz0, hz1, hz2⟩ := info86
      go_wp2_with fail
      go_quiet (fail)
      go_wp2_with fail
      go_loopw [5, 53] (fun acc i wr => ∃ j : Nat, j ≤ ids.length - k ∧ i = .int .i64 j ∧ Hid (wr.ownsRow wc.heap.size 86 3 acc (((ids.drop k).take j).filter (fun t => !decide (t ∈ held))).length (tcs (((ids.drop k).take j).filter (fun t => !decide (t ∈ held))))) ∧ Hid (Below wc.heap.size wc wr)) (fun _ i _ => ids.length - k - (intOf i).toNat)
      case atStart => exact ⟨0, by omega, rfl, World.ownsRow_nil _ _ _ _, bdrewN (Below.refl _ _) _⟩
      case round =>
        obtain ⟨j, hj, rfl, HW, HB2⟩ := hrel
        by_cases hlt : j < ids.length - k
        · obtain ⟨e0, e1, e2⟩ := (HK.out.kept HB2.out).rd (k + j) (by omega)
          obtain ⟨x, y, z, ht⟩ : ∃ x y z, ids.getD (k + j) (0, 0, 0) = (x, y, z) := ⟨_, _, _, rfl⟩
          rw [ht] at e0 e1 e2
          rw [Nat.zero_add, Nat.add_mul] at e0 e1 e2
          have htk : (ids.drop k)[j]? = some (x, y, z) := by
            rw [List.getElem?_drop, ← ht]; simp [List.getD, List.getElem?_eq_getElem (show k + j < ids.length by omega)]
          have hts : (ids.drop k).take (j + 1) = (ids.drop k).take j ++ [(x, y, z)] := by rw [List.take_add_one, htk]; rfl
          have HTS : Hid ((ids.drop k).take (j + 1) = (ids.drop k).take j ++ [(x, y, z)]) := hts
          clear hts htk
          have K2 : Hid (Ak (wr.alloc (.cells #[.int .i64 x, .int .i64 y, .int .i64 z] 86)) mb hb ab rb es ck ids k) := (HK.out.kept HB2.out).kept ((Below.refl _ _).alloc (Nat.le_refl _) _)
          go_wp2_with fail
          refine (lacks_any mb hb es ck held f x y z _ K2.out.bm K2.out.c33 K2.out.c37 K2.out.hh HH.out).mono ?_
          rintro e w1 ⟨rfl, hb1⟩
          have hxb : ∀ o v, (#[Value.int .i64 x, .int .i64 y, .int .i64 z])[o]? = some v → w1.cell? ⟨wr.heap.size, o, none⟩ = some v := fun o v hv => by
            rw [hb1.cell (p := ⟨wr.heap.size, o, none⟩) (by simp), cell_of_row _ _ o _ _ _ (heap_alloc_new wr _)]; exact hv
          have c0 := hxb 0 _ rfl
          have c1 := hxb 1 _ rfl
          have c2 := hxb 2 _ rfl
          clear hxb
          have HB3 : Hid (Below wc.heap.size wc w1) := (HB2.out.alloc HB2.out.size _).trans (hb1.mono (by have := HB2.out.size; simp; omega))
          have HW1 : Hid (w1.ownsRow wc.heap.size 86 3 u5 (((ids.drop k).take j).filter (fun t => !decide (t ∈ held))).length (tcs (((ids.drop k).take j).filter (fun t => !decide (t ∈ held))))) := own_keep HW.out (fun g hg => by
            have := (HW.out.lt g hg).2
            rw [hb1.block g (by simp; omega)]; exact Go.Deep.blk_alloc_lt wr _ g this)
          have hs1 : wc.heap.size ≤ w1.heap.size := HB3.out.size
          have hnl : (((ids.drop k).take j).filter (fun t => !decide (t ∈ held))).length ≤ 1000000 := by
            refine Nat.le_trans (List.length_filter_le _ _) ?_
            rw [List.length_take]; omega
          by_cases hmem : (x, y, z) ∈ held
          · have hdd : decide ((x, y, z) ∈ held) = true := decide_eq_true hmem
            have HF : Hid (((ids.drop k).take (j + 1)).filter (fun t => !decide (t ∈ held)) = ((ids.drop k).take j).filter (fun t => !decide (t ∈ held))) := by
              show _ = _
              rw [HTS.out, List.filter_append]; simp [hmem]
            clear hmem
            go_wp2_with fail
            go_roundw
            case rel => exact ⟨j + 1, by omega, by go_num, by rw [HF.out]; exact HW1, HB3⟩
            case measure => simp [intOf]; omega
          · have hdd : decide ((x, y, z) ∈ held) = false := decide_eq_false hmem
            have HF : Hid (((ids.drop k).take (j + 1)).filter (fun t => !decide (t ∈ held)) = ((ids.drop k).take j).filter (fun t => !decide (t ∈ held)) ++ [(x, y, z)]) := by
              show _ = _
              rw [HTS.out, List.filter_append]; simp [hmem]
            clear hmem
            generalize hFj : ((ids.drop k).take j).filter (fun t => !decide (t ∈ held)) = F at *
            have hoA := (HW1.out).alloc (.cells #[.int .i64 x, .int .i64 y, .int .i64 z] 86)
            go_wp2_with (at_builtin; refine wpList_append_own_at _ rfl _ _ 54 rfl wc.heap.size 86 ti _ 3 24 Yba.underlying54 hti hz0 hz1 hz2 rfl (by omega) u5 F.length (tcs F) rfl hoA ⟨w1.heap.size, 0, none⟩ 1 1 [.int .i64 x, .int .i64 y, .int .i64 z] rfl rfl (World.news_of_block (heap_alloc_new w1 _)) (tcs_one [(x, y, z)]) (by simp [maxLen]; omega) (by omega) (by simp; omega) ?_; intro v' w' ho hgr hnil hat)
            go_roundw
            case rel => exact ⟨j + 1, by omega, by go_num, by rw [HF.out, List.length_append, tcs_append]; exact ho, below_grown (HB3.out.alloc HB3.out.size _) hgr (by have := HB3.out.size; simp; omega) (fun q hq => (hoA.lt q hq).1)⟩
            case measure => simp [intOf]; omega
        · have HF : Hid (((ids.drop k).take j).filter (fun t => !decide (t ∈ held)) = lackedFrom held ids (adv held ids nl)) := by
            show _ = _
            rw [HV.out, List.take_of_length_le (by omega)]; rfl
          go_wp2
          go_ret
          refine ⟨_, rfl, ?_, ?_⟩
          · rw [← HF.out]; exact own_base HW.out hsz
          · rw [HV.out]; exact HB.out.trans (HB2.out.mono hsz)
  case first =>
    go_wp2_with fail
    go_loopw [] (fun wr => ∃ (k : Nat), k ≤ ids.length ∧ Hid (Ak wr mb hb ab rb es ck ids k) ∧ Hid (adv held ids nl = adv held ids k) ∧ Hid (Below w.heap.size (w.setCell ⟨ab, 15, none⟩ (.int .i64 k)) wr)) (fun wr => match wr.cell? ⟨ab, 15, none⟩ with | some (.int .i64 k) => ids.length - k.toNat | _ => 0)
    case atStart => exact ⟨nl, hn, HA, rfl, ⟨rfl, rfl, rfl, by simp, fun k _ => by rw [setCell_self HA.out.a15]⟩⟩
    case round =>
      obtain ⟨k, hk, HK, HV, HB⟩ := hrel
      by_cases hlt : k < ids.length
      · obtain ⟨e0, e1, e2⟩ := HK.out.rd k hlt
        have q0 := HK.out.a1
        have q1 := HK.out.a15
        have q2 := HK.out.fz
        rw [Nat.zero_add] at e0 e1 e2
        obtain ⟨x, y, z, ht⟩ : ∃ x y z, ids.getD k (0, 0, 0) = (x, y, z) := ⟨_, _, _, rfl⟩
        have htk : ids[k] = (x, y, z) := by rw [← ht]; simp [hlt]
        rw [ht] at e0 e1 e2
        by_cases hmem : (x, y, z) ∈ held
        · have hdd : decide ((x, y, z) ∈ held) = true := decide_eq_true hmem
          have HX : Hid (adv held ids k = adv held ids (k + 1)) := adv_step held ids k hlt (by rw [htk]; exact hmem)
          clear hmem
          go_wp2_with fail
          go_region_held3 (fun w' => w'.cell? ⟨ab, 1, none⟩ = some (.slice (some ⟨rb, 0, none⟩) ids.length ids.length) ∧ w'.cell? ⟨ab, 15, none⟩ = some (.int .i64 k) ∧ w'.cell? ⟨rb, k * 3, none⟩ = some (.int .i64 x) ∧ w'.cell? ⟨rb, k * 3 + 1, none⟩ = some (.int .i64 y) ∧ w'.cell? ⟨rb, k * 3 + 2, none⟩ = some (.int .i64 z)) (go_keep)
            (first | (go_at_call 23; refine (lacks_any mb hb es ck held f x y z wr.drew HK.out.bm HK.out.c33 HK.out.c37 HK.out.hh HH.out).mono ?_; rintro e w1 ⟨rfl, hb1⟩; have B1 : Hid (Below wr.heap.size wr w1) := (Below.refl _ _).drew.trans hb1; have K1 : Hid (Ak w1 mb hb ab rb es ck ids k) := HK.out.kept B1.out; obtain ⟨g0, g1, g2⟩ := K1.out.rd k hlt; rw [Nat.zero_add] at g0 g1 g2; rw [ht] at g0 g1 g2; have p0 := K1.out.a1; have p1 := K1.out.a15; have p2 := K1.out.fz))
          all_goals
            go_wp2_with fail
            refine ⟨⟨k + 1, by omega, ?_, ?_, ?_⟩, ?_⟩
            · exact K1.out.set hm hr hhb (k + 1)
            · exact HV.out.trans HX.out
            · exact below_set (HB.out.trans (B1.out.mono (by have := HB.out.size; simp at this; omega))) _
            · rw [World.cell?_setCell_same _ _ _ p1, q1]
              show ids.length - ((k : Int) + 1).toNat < ids.length - (k : Int).toNat
              omega
        · have hdd : decide ((x, y, z) ∈ held) = false := decide_eq_false hmem
          have HX : Hid (adv held ids k = k) := adv_stop held ids k hlt (by rw [htk]; exact hmem)
          clear hmem
          go_wp2_with fail
          go_region_held3 (fun w' => w'.cell? ⟨ab, 1, none⟩ = some (.slice (some ⟨rb, 0, none⟩) ids.length ids.length) ∧ w'.cell? ⟨ab, 15, none⟩ = some (.int .i64 k) ∧ w'.cell? ⟨rb, k * 3, none⟩ = some (.int .i64 x) ∧ w'.cell? ⟨rb, k * 3 + 1, none⟩ = some (.int .i64 y) ∧ w'.cell? ⟨rb, k * 3 + 2, none⟩ = some (.int .i64 z)) (go_keep)
            (first | (go_at_call 23; refine (lacks_any mb hb es ck held f x y z wr.drew HK.out.bm HK.out.c33 HK.out.c37 HK.out.hh HH.out).mono ?_; rintro e w1 ⟨rfl, hb1⟩; have B1 : Hid (Below wr.heap.size wr w1) := (Below.refl _ _).drew.trans hb1; have K1 : Hid (Ak w1 mb hb ab rb es ck ids k) := HK.out.kept B1.out; obtain ⟨g0, g1, g2⟩ := K1.out.rd k hlt; rw [Nat.zero_add] at g0 g1 g2; rw [ht] at g0 g1 g2; have p0 := K1.out.a1; have p1 := K1.out.a15; have p2 := K1.out.fz))
          all_goals
            go_wp2_with fail
            go_meet
            case rel => exact ⟨k, hk, K1, HV.out.trans HX.out, HB.out.trans (B1.out.mono (by have := HB.out.size; simp at this; omega))⟩
      · have q0 := HK.out.a1
        have q1 := HK.out.a15
        have hkl : ¬ ((k : Int) < (ids.length : Int)) := by omega
        go_wp2_with fail
        go_quiet (fail)
        go_wp2_with fail
        go_meet
        case rel => exact ⟨k, hk, HK.out.kept (bdrewN (Below.refl _ _) _), HV.out.trans (adv_end held ids k (by omega)), bdrewN HB.out _⟩
end Go.Proofs.Ybulkdvuo
