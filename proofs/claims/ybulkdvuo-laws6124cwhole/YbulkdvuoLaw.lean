import Derived.Test.YbulkdvuoEv
namespace Go.Proofs.Ybulkdvuo
open Go.RowKit
set_option linter.unusedSimpArgs false
set_option maxRecDepth 40000 in
set_option maxHeartbeats 40000000 in
theorem walk (id tok per rt now un : Int) (la : Option Addr) (lk : List In1) (lc : Nat) (ha : Option Addr) (hd : List Tri) (hc : Nat) (oa : Option Addr) (od : List Int) (oc : Nat) (fi fr : Int) (jOn jHeld : Bool) (jS jJ : Int) (w : World)
    (c1 : 0 ≤ id ∧ id ≤ 255) (c2 : 0 ≤ tok ∧ tok ≤ 65535) (c3 : 0 ≤ per ∧ per ≤ 65535) (c4 : 0 ≤ rt ∧ rt ≤ 255) (c5 : -2147483648 ≤ now ∧ now ≤ 2147483647) (c6 : -9223372036854775808 ≤ un ∧ un ≤ 9223372036854775807) (c7 : -128 ≤ fi ∧ fi ≤ 127) (c8 : -32768 ≤ fr ∧ fr ≤ 32767) (c9 : 0 ≤ jS ∧ jS ≤ 255) (c10 : -32768 ≤ jJ ∧ jJ ≤ 32767)
    (b1 : lk.length ≤ 4096) (b2 : hd.length ≤ 4096) (b3 : od.length ≤ 4096) (hL : RdL w la lk) (hok : ∀ x ∈ lk, x.ok) (hLr : ∀ x ∈ lk, Rd8 w x.ra x.refs) (hHd : Rd8 w ha hd) (hho : ∀ t ∈ hd, T8ok t) (hOd : Rd1 w oa od) (hoo : ∀ x ∈ od, 0 ≤ x ∧ x ≤ 255) :
    Calls Yba.prog 3 #[.int .u8 id, .int .u16 tok, .int .u16 per, .int .u8 rt, .int .i32 now, .int .i64 un, .slice la lk.length lc, .slice ha hd.length hc, .slice oa od.length oc, .int .i8 fi, .int .i16 fr, .agg #[.bool jOn, .bool jHeld, .int .u8 jS, .int .i16 jJ]] w fun e w' => e = .returned (.bool true) ∧ Below w.heap.size w w' := by
  have HL : Hid (RdL w la lk) := hL
  have HO : Hid (∀ x ∈ lk, x.ok) := hok
  have HR : Hid (∀ x ∈ lk, Rd8 w x.ra x.refs) := hLr
  have HD : Hid (Rd8 w ha hd) := hHd
  have HDO : Hid (∀ t ∈ hd, T8ok t) := hho
  have HOD : Hid (Rd1 w oa od) := hOd
  have HOO : Hid (∀ x ∈ od, 0 ≤ x ∧ x ≤ 255) := hoo
  have HB : Hid (tot lk ≤ lk.length * 281474976710656) := tot_le (fun x hx => (hok x hx).2.2.2)
  clear hL hok hLr hHd hho hOd hoo
  go_enter Yba.func3, Yba.ntmps3
  go_upto_block 0 with fail
  go_cut [25] from 93 to 102 (fun tv wx => tv = .int .i64 (tot lk : Nat) ∧ Hid (Below (w.heap.size + 1) (w.alloc (.cells #[.bool jOn, .bool jHeld, .int .u8 jS, .int .i16 jJ] 29)) wx))
  case first =>
    go_wp2_with fail
    go_loopw [25, 93] (fun tv iv wr => ∃ k : Nat, k ≤ lk.length ∧ iv = .int .i64 k ∧ tv = .int .i64 (tot (lk.take k) : Nat) ∧ Hid (Below (w.heap.size + 1) (w.alloc (.cells #[.bool jOn, .bool jHeld, .int .u8 jS, .int .i16 jJ] 29)) wr)) (fun _ iv _ => lk.length - (intOf iv).toNat)
    case atStart => exact ⟨0, by omega, rfl, rfl, Below.refl _ _⟩
    case round =>
      obtain ⟨k, hk, rfl, rfl, HW⟩ := hrel
      by_cases hkn : k < lk.length
      · obtain ⟨lb, lo, rfl, hlb, hlr⟩ := HL.out (by omega)
        obtain ⟨x, hx⟩ : ∃ x, lk[k]? = some x := ⟨_, List.getElem?_eq_getElem hkn⟩
        obtain ⟨e0, e1, e2⟩ := three_at (rangeAt_below HW.out (by omega) (World.rangeAt_alloc (flatAt (f := In1.cells) (n := 3) (fun _ _ => rfl) hlr hx) _))
        have hts := tot_take hx
        have hbd : tot (lk.take (k + 1)) ≤ 4096 * 281474976710656 := by
          refine Nat.le_trans (tot_le (l := lk.take (k + 1)) (fun y hy => (HO.out y (List.mem_of_mem_take hy)).2.2.2)) (Nat.mul_le_mul_right _ ?_)
          rw [List.length_take]; omega
        rw [hts] at hbd
        have hbI : ((tot (lk.take k) : Nat) : Int) + ((x.refs.length : Nat) : Int) ≤ 1152921504606846976 := by omega
        have HTS : Hid (tot (lk.take (k + 1)) = tot (lk.take k) + x.refs.length) := hts
        have hsz : w.heap.size + 1 ≤ wr.heap.size := by have := HW.out.size; simpa using this
        clear hts hlr
        go_wp2_with fail
        go_roundw
        case rel => exact ⟨k + 1, by omega, by go_num, by rw [HTS.out, Int.natCast_add], HW.out.alloc hsz _⟩
        case measure => simp [intOf]; omega
      · obtain rfl : k = lk.length := by omega
        rw [List.take_length]
        go_wp2_with fail
        go_meet
        case rel => exact ⟨rfl, HW⟩
  case rest =>
    obtain ⟨rfl, HW⟩ := hcut
    generalize hwA : wc = wA at *
    clear hwA
    by_cases hbig : tot lk ≤ 4096
    · have hb0 : ¬ ((4096 : Int) < ((tot lk : Nat) : Int)) := by omega
      go_wp2_with fail
      refine (blank_any _ _ _ _ _).mono ?_
      rintro e w2 ⟨Z, rfl, hZl, hz, hmem, hheld, hseq, hsz2, hb2⟩
      have hwc : w.heap.size + 1 ≤ wA.heap.size := by have := HW.out.size; simpa using this
      rw [show (wA.alloc (.cells #[.int .i64 (1 + tok % 1000), .int .i64 (rt % 8), .int .i64 (1 + per % 1000), .int .i64 0] 34)).heap.size = wA.heap.size + 1 by simp] at hmem hheld hseq hsz2 hb2 ⊢
      have HB2 : Hid (Below (wA.heap.size + 1) (wA.alloc (.cells #[.int .i64 (1 + tok % 1000), .int .i64 (rt % 8), .int .i64 (1 + per % 1000), .int .i64 0] 34)) w2) := hb2
      generalize hmbE : wA.heap.size + 1 + 10 = mb at *
      generalize hhbE : wA.heap.size + 1 + 1 = hb at *
      generalize hlsE : wA.heap.size + 1 + 5 = ls at *
      have HSZ2 : Hid (w2.heap.size = wA.heap.size + 1 + 11) := hsz2
      have HPL : Hid (wA.heap.size ≤ hb ∧ hb < ls ∧ ls < mb ∧ mb < w2.heap.size) := (by show _ ∧ _; omega)
      clear hsz2
      have M2 : MemB w2 mb (memCells Z (1 + id % 4) (1 + tok % 1000) (rt % 8) (1 + per % 1000) hb) := ⟨hmem, by simp [memCells, hZl]⟩
      have hT : 1 ≤ 1 + tok % 1000 ∧ 1 + tok % 1000 ≤ 1000 := by omega
      have hr : 0 ≤ rt % 8 ∧ rt % 8 ≤ 7 := by omega
      have hP : 1 ≤ 1 + per % 1000 ∧ 1 + per % 1000 ≤ 1000 := by omega
      have hI : 1 ≤ 1 + id % 4 ∧ 1 + id % 4 ≤ 4 := by omega
      generalize hTE : 1 + tok % 1000 = T at *
      generalize hrE : rt % 8 = r at *
      generalize hPE : 1 + per % 1000 = P at *
      generalize hIE : 1 + id % 4 = mid at *
      have c30 : w2.cell? ⟨mb, 30, none⟩ = some (.int .i64 0) := M2.cell (by simp [memCells, hz.2.2.1])
      have f30 := M2.free 30
      obtain ⟨ti, hti, hz0, hz1, hz2⟩ := info86
      have hmbl := M2.lt
      go_wp2_with (refine wpList_make_full _ rfl _ _ 54 rfl w2.heap.size 86 ti _ 3 Yba.underlying54 hti hz0 hz1 _ _ _ _ hd.length rfl rfl rfl rfl (by rw [hz2]; omega) (by simp [maxLen]; omega) (by simp) ?_; intro w3 hown3 hgr3)
      have hs3 : (w2.setCell ⟨mb, 30, none⟩ (.int .i64 now)).heap.size = w2.heap.size := by simp
      rw [hs3] at hown3
      have hk3 : ∀ g, g < w2.heap.size → w3.heap[g]? = (w2.setCell ⟨mb, 30, none⟩ (.int .i64 now)).heap[g]? := fun g hg => hgr3.block g (by rw [hs3]; exact hg) (by simp)
      have HS0 : Hid (S2 wA w3 mb hb ls w2.heap.size hd.length ((memCells Z mid T r P hb).set 30 (.int .i64 now)) []) := by
        have hlow2 : Below wA.heap.size wA w2 := ((Below.refl _ _).alloc (Nat.le_refl _) _).trans (HB2.out.mono (Nat.le_succ _))
        refine ⟨below_grown (hlow2.setCell (by show wA.heap.size ≤ mb; omega) _) hgr3 (by rw [hs3]; exact hlow2.size) (fun k hk => by cases hk), (M2.set 30 _).keep (hk3 mb hmbl), ?_, own_there hown3, fun j v hj => by simp [tcs] at hj, ⟨#[], 0, [], ?_, rfl, by simp⟩, (hown3.lt _ rfl).2, HPL.out⟩
        · rw [hk3 ls (by have := HPL.out; omega), Go.Deep.blk_setCell_other _ _ _ _ (by have := HPL.out; show ls ≠ mb; omega)]; exact hseq
        · rw [hk3 hb (by have := HPL.out; omega), Go.Deep.blk_setCell_other _ _ _ _ (by have := HPL.out; show hb ≠ mb; omega)]; exact hheld
      have HMF : Hid (MF ((memCells Z mid T r P hb).set 30 (.int .i64 now)) mid T r P now hb ls) := by
        have hls : ls = hb + 4 := by omega
        rw [hls]; exact mf_new Z hZl hz.2.2.2.1 mid T r P now hb
      have HMZ : Hid (((memCells Z mid T r P hb).set 30 (.int .i64 now))[8]? = some (.slice none 0 0) ∧ ((memCells Z mid T r P hb).set 30 (.int .i64 now))[15]? = some (.string ⟨#[]⟩) ∧ ((memCells Z mid T r P hb).set 30 (.int .i64 now))[39]? = some (.slice none 0 0) ∧ ((memCells Z mid T r P hb).set 30 (.int .i64 now))[42]? = some (.slice none 0 0)) :=
        ⟨mz_new Z _ _ _ _ _ _ 8 _ hz.1 (by omega), mz_new Z _ _ _ _ _ _ 15 _ hz.2.1 (by omega), mz_new Z _ _ _ _ _ _ 39 _ hz.2.2.2.2.1 (by omega), mz_new Z _ _ _ _ _ _ 42 _ hz.2.2.2.2.2 (by omega)⟩
      generalize hM0 : (memCells Z mid T r P hb).set 30 (.int .i64 now) = M0 at HS0 HMF HMZ
      clear hM0 hk3 hgr3 hown3 hs3 M2 c30 f30 hmem hheld hseq
      have HLW : Hid (Below w.heap.size w wA) := ((Below.refl _ _).alloc (Nat.le_refl _) _).trans (HW.out.mono (Nat.le_succ _))
      have HJB : Hid (∀ W : World, Below wA.heap.size wA W → W.cell? ⟨w.heap.size, 0, none⟩ = some (.bool jOn) ∧ W.cell? ⟨w.heap.size, 1, none⟩ = some (.bool jHeld) ∧ W.cell? ⟨w.heap.size, 2, none⟩ = some (.int .u8 jS) ∧ W.cell? ⟨w.heap.size, 3, none⟩ = some (.int .i16 jJ)) := fun W hW => by
        have hc : ∀ o v, #[Value.bool jOn, .bool jHeld, .int .u8 jS, .int .i16 jJ][o]? = some v → W.cell? ⟨w.heap.size, o, none⟩ = some v := fun o v hv => by
          rw [hW.cell (p := ⟨w.heap.size, o, none⟩) (by show w.heap.size < wA.heap.size; omega), HW.out.cell (p := ⟨w.heap.size, o, none⟩) (by show w.heap.size < w.heap.size + 1; omega), cell_of_row _ _ o _ _ _ (heap_alloc_new w _)]; exact hv
        exact ⟨hc 0 _ rfl, hc 1 _ rfl, hc 2 _ rfl, hc 3 _ rfl⟩
      generalize hhib : w2.heap.size = hib at *
      clear hb2 HB2 HW hmbl HSZ2 HPL
      go_loopw [137] (fun iv wr => ∃ i : Nat, i ≤ hd.length ∧ iv = .int .i64 i ∧ Hid (S2 wA wr mb hb ls hib hd.length M0 ((hd.take i).map m4))) (fun iv _ => hd.length - (intOf iv).toNat)
      case atStart => exact ⟨0, by omega, rfl, HS0⟩
      case round =>
        obtain ⟨i, hi, rfl, HS⟩ := hrel
        by_cases hin : i < hd.length
        · obtain ⟨ab, ao, rfl, hab, har⟩ := HD.out (by omega)
          obtain ⟨t, ht⟩ : ∃ t, hd[i]? = some t := ⟨_, List.getElem?_eq_getElem hin⟩
          have hto := HDO.out t (List.mem_of_getElem? ht)
          have hwsz : w.heap.size ≤ wA.heap.size := HLW.out.size
          obtain ⟨e0, e1, e2⟩ := three_at (rangeAt_below HS.out.low (by omega) (rangeAt_below HLW.out (by omega) (flatAt (f := t8) (n := 3) (fun _ _ => rfl) har ht)))
          have hids : ((hd.take i).map m4).length = i := by simp; omega
          have hnx : (hd.take (i + 1)).map m4 = (hd.take i).map m4 ++ [m4 t] := by rw [List.take_add_one, ht]; simp
          have HNX : Hid ((hd.take (i + 1)).map m4 = (hd.take i).map m4 ++ [m4 t]) := hnx
          clear hnx har
          go_wp2_with fail
          refine (id_any t.1 t.2.1 t.2.2 hto.1 hto.2.1 hto.2.2 _).mono ?_
          rintro e w4 ⟨rfl, hb4⟩
          have HS4 : Hid (S2 wA w4 mb hb ls hib hd.length M0 ((hd.take i).map m4)) := (HS.out.below ((Below.refl _ _).alloc (Nat.le_refl _) _)).below hb4
          have hth := HS4.out.th
          have g0 := hth (i * 3) (by omega)
          have g1 := hth (i * 3 + 1) (by omega)
          have g2 := hth (i * 3 + 2) (by omega)
          rw [Nat.zero_add] at g0 g1 g2
          clear hth
          obtain ⟨u0, hu0⟩ := Option.isSome_iff_exists.1 g0.1
          obtain ⟨u1, hu1⟩ := Option.isSome_iff_exists.1 g1.1
          obtain ⟨u2, hu2⟩ := Option.isSome_iff_exists.1 g2.1
          have f0 := g0.2
          have f1 := g1.2
          have f2 := g2.2
          clear g0 g1 g2 e0 e1 e2
          have i0 : (0 : Int) ≤ (i : Int) := by omega
          have i1 : (i : Int) < (hd.length : Int) := by omega
          obtain ⟨w5, hr5, hS5, hk5⟩ := (HS4.out.below (Below.refl _ _).drew).put (by omega) (m4 t)
          have hst := HS4.out.store (by omega) (m4 t)
          rw [hids] at hr5 hk5 hst
          have hc33 : (w4.setCells hib (i * 3) (tc (m4 t))).cell? ⟨mb, 33, none⟩ = some (.map (some hb)) := hst.2.2.1.cell HMF.out.m33
          have hrg : (w4.setCells hib (i * 3) (tc (m4 t))).rangeAt hib (i * 3) (tc (m4 t)) := World.rangeAt_setCells_same _ _ _ _ (there_sub HS4.out.th (by show i * 3 + 3 ≤ _; omega))
          have hmh := hS5.pl
          have HR5 : Hid ((Instr.mapUpdate 53 (.map (some hb)) (ky (m4 t)) (vl (m4 t))).run Yba.prog (w4.drew.setCells hib (i * 3) (tc (m4 t))) = .ok () w5) := hr5
          have HS5 : Hid (S2 wA w5 mb hb ls hib hd.length M0 ((hd.take i).map m4 ++ [m4 t])) := hS5
          have HQ5 : Hid ((w5.cell? ⟨mb, 33, none⟩ = some (.map (some hb))) ∧ w5.rangeAt hib (i * 3) (tc (m4 t))) := ⟨(World.cell?_of_block (a := ⟨mb, 33, none⟩) (hk5 mb (by omega))).trans hc33, fun j v hj => (World.cell?_of_block (a := ⟨hib, i * 3 + j, none⟩) (hk5 hib (by omega))).trans (hrg j v hj)⟩
          have HQ4 : Hid ((w4.setCells hib (i * 3) (tc (m4 t))).cell? ⟨mb, 33, none⟩ = some (.map (some hb)) ∧ (w4.setCells hib (i * 3) (tc (m4 t))).rangeAt hib (i * 3) (tc (m4 t))) := ⟨hc33, hrg⟩
          clear hr5 hS5 hk5 hst hc33 hrg
          go_wp2_with fail
          refine gen_wp (fun W => W = w4.setCells hib (i * 3) (tc (m4 t))) rfl ?_
          rintro W rfl
          clear hu0 hu1 hu2 f0 f1 f2
          refine wp_region_held_drew (S := fun W => W.cell? ⟨mb, 33, none⟩ = some (.map (some hb)) ∧ W.rangeAt hib (i * 3) (tc (m4 t))) (by kernel_rfl) (by exact HQ4.out) (fun hHeld => ?_)
          refine take_val (i := 0) (dst := some 147) (v := .pointer (some ⟨mb, 0, none⟩)) rfl rfl (by kernel_rfl) (by kernel_rfl) (by kernel_rfl) (fun _ _ _ h => h) (yields_move (by rfl) _ rfl rfl) hHeld ?_
          simp only [Act.put, List.setIfInBounds_toArray, List.set_cons_zero, List.set_cons_succ]
          refine take_val (i := 1) (dst := some 148) (v := .pointer (some ⟨mb, 0, none⟩)) rfl rfl (by kernel_rfl) (by kernel_rfl) (by kernel_rfl) (fun _ _ _ h => h) (Or.inl ⟨by rfl, fun w' hSw => by (try dsimp only at hSw); clear hSw; go_simp⟩) hHeld ?_
          simp only [Act.put, List.setIfInBounds_toArray, List.set_cons_zero, List.set_cons_succ]
          refine take_val (i := 2) (dst := some 149) (v := .pointer (some ⟨mb, 33, none⟩)) rfl rfl (by kernel_rfl) (by kernel_rfl) (by kernel_rfl) (fun _ _ _ h => h) (Or.inl ⟨by rfl, fun w' hSw => by (try dsimp only at hSw); clear hSw; go_simp⟩) hHeld ?_
          simp only [Act.put, List.setIfInBounds_toArray, List.set_cons_zero, List.set_cons_succ]
          refine take_val (i := 3) (dst := some 150) (v := .map (some hb)) rfl rfl (by kernel_rfl) (by kernel_rfl) (by kernel_rfl) (fun _ _ _ h => h) (Or.inl ⟨by rfl, fun w' hSw => by have hj := hSw.1; clear hSw; go_simp⟩) hHeld ?_
          simp only [Act.put, List.setIfInBounds_toArray, List.set_cons_zero, List.set_cons_succ]
          refine take_val (i := 4) (dst := some 151) (v := .slice (some ⟨hib, 0, none⟩) hd.length hd.length) rfl rfl (by kernel_rfl) (by kernel_rfl) (by kernel_rfl) (fun _ _ _ h => h) (yields_move (by rfl) _ rfl rfl) hHeld ?_
          simp only [Act.put, List.setIfInBounds_toArray, List.set_cons_zero, List.set_cons_succ]
          refine take_val (i := 5) (dst := some 152) (v := .int .i64 i) rfl rfl (by kernel_rfl) (by kernel_rfl) (by kernel_rfl) (fun _ _ _ h => h) (yields_move (by rfl) _ rfl rfl) hHeld ?_
          simp only [Act.put, List.setIfInBounds_toArray, List.set_cons_zero, List.set_cons_succ]
          refine take_val (i := 6) (dst := some 153) (v := .pointer (some ⟨hib, i * 3, none⟩)) rfl rfl (by kernel_rfl) (by kernel_rfl) (by kernel_rfl) (fun _ _ _ h => h) (Or.inl ⟨by rfl, fun w' hSw => by (try dsimp only at hSw); clear hSw; go_simp⟩) hHeld ?_
          simp only [Act.put, List.setIfInBounds_toArray, List.set_cons_zero, List.set_cons_succ]
          refine take_val (i := 7) (dst := some 154) (v := .agg #[.int .i64 (t.1 % 4), .int .i64 (t.2.1 % 4), .int .i64 (t.2.2 % 3)]) rfl rfl (by kernel_rfl) (by kernel_rfl) (by kernel_rfl) (fun _ _ _ h => h) (yieldsIf_load_mid (by rfl) 86 (.tmp 153) rfl hib (i * 3) rfl (tc (m4 t)) _ (fun _ h => h.2) Yba.underlying86 rfl (by kernel_rfl)) hHeld ?_
          simp only [Act.put, List.setIfInBounds_toArray, List.set_cons_zero, List.set_cons_succ]
          refine take_val (i := 8) (dst := some 155) (v := .slice (some ⟨hib, 0, none⟩) hd.length hd.length) rfl rfl (by kernel_rfl) (by kernel_rfl) (by kernel_rfl) (fun _ _ _ h => h) (yields_move (by rfl) _ rfl rfl) hHeld ?_
          simp only [Act.put, List.setIfInBounds_toArray, List.set_cons_zero, List.set_cons_succ]
          refine take_val (i := 9) (dst := some 156) (v := .int .i64 i) rfl rfl (by kernel_rfl) (by kernel_rfl) (by kernel_rfl) (fun _ _ _ h => h) (yields_move (by rfl) _ rfl rfl) hHeld ?_
          simp only [Act.put, List.setIfInBounds_toArray, List.set_cons_zero, List.set_cons_succ]
          refine take_val (i := 10) (dst := some 157) (v := .pointer (some ⟨hib, i * 3, none⟩)) rfl rfl (by kernel_rfl) (by kernel_rfl) (by kernel_rfl) (fun _ _ _ h => h) (Or.inl ⟨by rfl, fun w' hSw => by (try dsimp only at hSw); clear hSw; go_simp⟩) hHeld ?_
          simp only [Act.put, List.setIfInBounds_toArray, List.set_cons_zero, List.set_cons_succ]
          refine take_val (i := 11) (dst := some 158) (v := .agg #[.int .i64 (t.1 % 4), .int .i64 (t.2.1 % 4), .int .i64 (t.2.2 % 3)]) rfl rfl (by kernel_rfl) (by kernel_rfl) (by kernel_rfl) (fun _ _ _ h => h) (yieldsIf_load_mid (by rfl) 86 (.tmp 157) rfl hib (i * 3) rfl (tc (m4 t)) _ (fun _ h => h.2) Yba.underlying86 rfl (by kernel_rfl)) hHeld ?_
          simp only [Act.put, List.setIfInBounds_toArray, List.set_cons_zero, List.set_cons_succ]
          refine take_val (i := 12) (dst := some 159) (v := .agg #[.int .i64 (t.1 % 4), .int .i64 (t.2.1 % 4), .int .i64 (t.2.2 % 3), .slice none 0 0]) rfl rfl (by kernel_rfl) (by kernel_rfl) (by kernel_rfl) (fun _ _ _ h => h) (Or.inl ⟨by rfl, fun w' hSw => by (try dsimp only at hSw); clear hSw; go_simp⟩) hHeld ?_
          simp only [Act.put, List.setIfInBounds_toArray, List.set_cons_zero, List.set_cons_succ]
          refine take_val (i := 13) (dst := some 160) (v := .agg #[.int .i64 (t.1 % 4), .int .i64 (t.2.1 % 4), .int .i64 (t.2.2 % 3), .slice none 0 0, .int .i64 0]) rfl rfl (by kernel_rfl) (by kernel_rfl) (by kernel_rfl) (fun _ _ _ h => h) (Or.inl ⟨by rfl, fun w' hSw => by (try dsimp only at hSw); clear hSw; go_simp⟩) hHeld ?_
          simp only [Act.put, List.setIfInBounds_toArray, List.set_cons_zero, List.set_cons_succ]
          refine wpAnyH_ready (rs := [14]) (by kernel_rfl) (by simp) ?_
          refine AllReadyH.cons rfl (fun KK hK => ?_) AllReadyH.nil
          refine come_map (w' := w5) (by rfl) rfl 53 _ _ _ rfl _ _ _ rfl rfl rfl ?hr ?hk
          case hr => exact HR5.out
          refine hK.out _ _ HQ5.out (fun _ => ?_)
          clear hK KK
          refine wpAnyH_done (by kernel_rfl) ?_ _
          clear hHeld
          go_wp2_with fail
          go_roundw
          case rel => exact ⟨i + 1, by omega, by go_num, by rw [HNX.out]; exact HS5⟩
          case measure => simp [intOf]; omega
        · obtain rfl : i = hd.length := by omega
          have HS3 : Hid (S2 wA wr mb hb ls hib hd.length M0 (hd.map m4)) := by
            have hz := HS.out
            rw [List.take_length] at hz; exact hz
          clear HS HS0
          generalize hwE : wr = wE at *
          clear hwE
          obtain ⟨tj, htj, hy0, hy1, hy2⟩ := info3
          go_wp2_with (refine wpList_make_full _ rfl _ _ 48 rfl wE.heap.size 3 tj _ 1 Yba.underlying48 htj hy0 hy1 _ _ _ _ od.length rfl rfl rfl rfl (by rw [hy2]; omega) (by simp [maxLen]; omega) (Nat.le_refl _) ?_; intro w6 hown6 hgr6)
          have hB6 : Below wE.heap.size wE w6 := below_grown (Below.refl _ _) hgr6 (Nat.le_refl _) (fun k hk => by cases hk)
          have HS6 : Hid (S2 wA w6 mb hb ls hib hd.length M0 (hd.map m4)) := HS3.out.below hB6
          have HTH6 : Hid (w6.there wE.heap.size 0 (od.length * 1)) := own_there hown6
          have hlt6 : wE.heap.size < w6.heap.size := (hown6.lt _ rfl).2
          have hhe : hib < wE.heap.size := HS3.out.lt
          clear hown6 hgr6 hB6
          generalize hobE : wE.heap.size = ob at *
          go_loopw [167] (fun iv wl => ∃ i : Nat, i ≤ od.length ∧ iv = .int .i64 i ∧ Hid (S2 wA wl mb hb ls hib hd.length M0 (hd.map m4)) ∧ Hid (wl.there ob 0 (od.length * 1)) ∧ Hid (wl.rangeAt ob 0 ((od.take i).map (fun x => Value.int .i64 (m6 x)))) ∧ ob < wl.heap.size) (fun iv _ => od.length - (intOf iv).toNat)
          case atStart => exact ⟨0, by omega, rfl, HS6, HTH6, fun j v hj => by simp at hj, hlt6⟩
          case round =>
            obtain ⟨i, hi, rfl, HS, HT, HR2, hobl⟩ := hrel
            by_cases hin2 : i < od.length
            · obtain ⟨ab, ao, rfl, hab, har⟩ := HOD.out (by omega)
              obtain ⟨x, hx⟩ : ∃ x, od[i]? = some x := ⟨_, List.getElem?_eq_getElem hin2⟩
              have hxo := HOO.out x (List.mem_of_getElem? hx)
              have hwsz : w.heap.size ≤ wA.heap.size := HLW.out.size
              have e0 : wr.cell? ⟨ab, ao + i, none⟩ = some (.int .u8 x) := rangeAt_below HS.out.low (by omega) (rangeAt_below HLW.out (by omega) har) i _ (by simp [hx])
              have g0 := HT.out i (by omega)
              rw [Nat.zero_add] at g0
              obtain ⟨u0, hu0⟩ := Option.isSome_iff_exists.1 g0.1
              have f0 := g0.2
              have i0 : (0 : Int) ≤ (i : Int) := by omega
              have i1 : (i : Int) < (od.length : Int) := by omega
              have hnx : (od.take (i + 1)).map (fun x => Value.int .i64 (m6 x)) = (od.take i).map (fun x => Value.int .i64 (m6 x)) ++ [.int .i64 (1 + x % 6)] := by rw [List.take_add_one, hx]; simp [m6]
              have HNX : Hid ((od.take (i + 1)).map (fun x => Value.int .i64 (m6 x)) = (od.take i).map (fun x => Value.int .i64 (m6 x)) ++ [.int .i64 (1 + x % 6)]) := hnx
              have hlen2 : ((od.take i).map (fun x => Value.int .i64 (m6 x))).length = i := by simp; omega
              clear hnx g0 har
              go_wp2_with fail
              go_roundw
              case rel =>
                refine ⟨i + 1, by omega, by go_num, ?_, ?_, ?_, by simpa using hobl⟩
                · exact HS.out.other (ob := ob) (by omega) ⟨rfl, rfl, rfl, by simp⟩ (fun g hg hne => Go.Deep.blk_setCell_other _ _ _ _ hne)
                · exact World.there_setCells (w := wr) HT.out ob i [.int .i64 (1 + x % 6)]
                · rw [HNX.out]
                  refine rangeAt_join (World.rangeAt_setCells_apart (w := wr) HR2.out ob i [.int .i64 (1 + x % 6)] (by rw [hlen2]; omega)) ?_
                  rw [hlen2, Nat.zero_add]
                  exact World.rangeAt_setCells_same wr ob i [.int .i64 (1 + x % 6)] (there_sub HT.out (by show i + 1 ≤ _; omega))
              case measure => simp [intOf]; omega
            · obtain rfl : i = od.length := by omega
              rw [List.take_length] at HR2
              generalize hwF : wr = wF at *
              clear hwF HS3 HS6 HTH6
              have HRG := HS.out.ring (ob := ob) (fr := fr) (fi := fi) (on := od.length)
              have HRG' : Hid (S2 wA ((wF.setCell ⟨mb, 8, none⟩ (.slice (some ⟨wF.heap.size, 0, none⟩) 1 1)).alloc (.cells #[.int .i64 0, .int .i64 fr, .int .i64 fi, .slice (some ⟨ob, 0, none⟩) od.length od.length] 50)) mb hb ls hib hd.length (M0.set 8 (.slice (some ⟨wF.heap.size, 0, none⟩) 1 1)) (hd.map m4) ∧ ((wF.setCell ⟨mb, 8, none⟩ (.slice (some ⟨wF.heap.size, 0, none⟩) 1 1)).alloc (.cells #[.int .i64 0, .int .i64 fr, .int .i64 fi, .slice (some ⟨ob, 0, none⟩) od.length od.length] 50)).rangeAt wF.heap.size 0 [.int .i64 0, .int .i64 fr, .int .i64 fi, .slice (some ⟨ob, 0, none⟩) od.length od.length]) := HRG
              have c8 : wF.cell? ⟨mb, 8, none⟩ = some (.slice none 0 0) := HS.out.mem.cell HMZ.out.1
              have f8 := HS.out.mem.free 8
              have hpl := HS.out.pl
              have hmF := HS.out.mem.lt
              have hwsz : w.heap.size < wA.heap.size := by omega
              have hws2 : wA.heap.size ≤ wF.heap.size := HS.out.low.size
              obtain ⟨j0, j1, j2, j3⟩ := HJB.out wF HS.out.low
              have hnj : ¬ (mb = w.heap.size) := by omega
              have hnj2 : ¬ (w.heap.size = mb) := by omega
              have hjl : w.heap.size < wF.heap.size := by omega
              clear HRG
              go_upto_if 195 with fail
              refine gen_wp (fun W => Hid (S2 wA W mb hb ls hib hd.length (M0.set 8 (.slice (some ⟨wF.heap.size, 0, none⟩) 1 1)) (hd.map m4)) ∧ Hid (W.rangeAt wF.heap.size 0 [.int .i64 0, .int .i64 fr, .int .i64 fi, .slice (some ⟨ob, 0, none⟩) od.length od.length]) ∧ Hid (W.rangeAt ob 0 (od.map (fun x => Value.int .i64 (m6 x)))) ∧ wF.heap.size < W.heap.size) ⟨HRG'.out.1, HRG'.out.2, ?_, by simp⟩ ?_
              · exact World.rangeAt_alloc (fun j v hj => (World.cell?_of_block (a := ⟨ob, 0 + j, none⟩) (Go.Deep.blk_setCell_other _ _ _ _ (by show ob ≠ mb; omega))).trans (HR2.out j v hj)) _
              rintro wG ⟨HSG, HRGG, HOG, hGl⟩
              clear HRG' c8 f8 j0 j1 j2 j3 HS HT HR2
              obtain ⟨j0, j1, j2, j3⟩ := HJB.out wG HSG.out.low
              generalize hrgE : wF.heap.size = rg at *
              have HMF1 : Hid (MF (M0.set 8 (.slice (some ⟨rg, 0, none⟩) 1 1)) mid T r P now hb ls) := HMF.out.set (by omega)
              have HM8 : Hid ((M0.set 8 (.slice (some ⟨rg, 0, none⟩) 1 1))[8]? = some (.slice (some ⟨rg, 0, none⟩) 1 1) ∧ (M0.set 8 (.slice (some ⟨rg, 0, none⟩) 1 1))[15]? = some (.string ⟨#[]⟩) ∧ (M0.set 8 (.slice (some ⟨rg, 0, none⟩) 1 1))[39]? = some (.slice none 0 0) ∧ (M0.set 8 (.slice (some ⟨rg, 0, none⟩) 1 1))[42]? = some (.slice none 0 0)) := by
                have hl0 : M0.length = 74 := by have := HSG.out.mem.len; simpa using this
                exact ⟨List.getElem?_set_self (by omega), (List.getElem?_set_ne (by omega)).trans HMZ.out.2.1, (List.getElem?_set_ne (by omega)).trans HMZ.out.2.2.1, (List.getElem?_set_ne (by omega)).trans HMZ.out.2.2.2⟩
              generalize hM1 : M0.set 8 (.slice (some ⟨rg, 0, none⟩) 1 1) = M1 at HSG HMF1 HM8
              clear hM1 HMF HMZ
              go_cut [] from 196 to 220 (fun wx => ∃ M2 : List Value, Hid (S3 wA wx mb hb hib ob rg M2 (hd.map m4) (od.map (fun x => Value.int .i64 (m6 x))) fr fi od.length (aftOf jOn jHeld jJ)) ∧ Hid (MF M2 mid T r P now hb ls))
              case rest =>
                obtain ⟨M2, HS3, HMF2⟩ := hcut
                rename_i aK
                clear HSG HRGG HOG HMF1 HM8 j0 j1 j2 j3
                obtain ⟨es, ck, lh, hh1, hh2, hh3⟩ := HS3.out.hld
                obtain ⟨q, hq⟩ := ix_ex (od.map m6) mid
                have e1 : hd.length = (hd.map m4).length := by simp
                have e2 : od.length = (od.map m6).length := by simp
                have hS3 : S3 wA wc mb hb hib ob rg M2 (hd.map m4) ((od.map m6).map (Value.int .i64)) fr fi (od.map m6).length (aftOf jOn jHeld jJ) := by
                  have h9 := HS3.out
                  rw [List.map_map, ← e2]; exact h9
                have hjc := HJB.out wc hS3.low
                have hpl := hS3.pl
                refine aK _ _ ?_
                rw [e1, e2]
                exact t38 (c := ⟨T, r, P, un, slotOf T (now - (Rw r P + Rw r P)) - 1, aftOf jOn jHeld jJ, lh, fun J => firstOf (od.map m6).length fr fi J q⟩) (l := od.map m6) (ids := hd.map m4) (es := es) (ck := ck) (jOn := jOn) (jHeld := jHeld) (jJ := jJ) b1 HL.out HO.out (fun x hx => Nat.le_trans (tot_mem hx) hbig) HR.out (HLW.out.trans (hS3.low.mono HLW.out.size)) (by omega) c7 c8 c10 rfl ⟨hjc.1, hjc.2.1, hjc.2.2.2⟩ (by omega) (ev_of hS3 HMF2.out hh1 ⟨rfl, rfl, rfl, rfl⟩)
                  ⟨hT, hr, hP, c5, c6, rfl, aftOf_bd jOn jHeld c10, ⟨_, heldAs_of es ck hb lh hh2⟩, hh3, ⟨q, hq, fun _ => rfl⟩, ⟨by omega, by omega⟩, ⟨by omega, by omega⟩, by rw [← e2]; exact b3, by rw [← e1]; exact b2⟩ (hS3.mem.cell hS3.m42) (hS3.mem.free 42)
              case first =>
                by_cases hOn : jOn = true
                · subst hOn
                  have c15 : wG.cell? ⟨mb, 15, none⟩ = some (.string ⟨#[]⟩) := HSG.out.mem.cell HM8.out.2.1
                  have f15 := HSG.out.mem.free 15
                  have c58 : wG.cell? ⟨mb, 58, none⟩ = some (.map (some ls)) := HSG.out.mem.cell HMF1.out.m58
                  obtain ⟨w8, hr8, hj8⟩ := HSG.out.join (jS % 4)
                  have HR8 : Hid ((Instr.mapUpdate 68 (.map (some ls)) (.int .i64 1) (.int .i64 (jS % 4))).run Yba.prog (wG.setCell ⟨mb, 15, none⟩ (.string ⟨#[106, 111, 105, 110, 105, 110, 103]⟩)) = .ok () w8) := hr8
                  have HJ8 : Hid (S2j wA wG w8 mb hb ls hib M1 (hd.map m4) (jS % 4)) := hj8
                  obtain ⟨y0, y1, y2, y3⟩ := HJB.out w8 hj8.low
                  have hml : mb < wG.heap.size := HSG.out.mem.lt
                  have hpG := HSG.out.pl
                  clear hr8 hj8
                  by_cases hHe : jHeld = true
                  · subst hHe
                    have c39 : w8.cell? ⟨mb, 39, none⟩ = some (.slice none 0 0) := HJ8.out.mem.cell ((List.getElem?_set_ne (by omega)).trans HM8.out.2.2.1)
                    have f39 := HJ8.out.mem.free 39
                    have hm8 : mb < w8.heap.size := HJ8.out.mem.lt
                    have hfz8 : ∀ o1 o2 o3 : Obj, (((w8.alloc o1).alloc o2).alloc o3).frozen? ⟨mb, 39, none⟩ = false := fun o1 o2 o3 => by
                      have hB : Below w8.heap.size w8 (((w8.alloc o1).alloc o2).alloc o3) := (((Below.refl _ _).alloc (Nat.le_refl _) _).alloc (by simp) _).alloc (by simp <;> omega) _
                      exact (hB.frozen (p := ⟨mb, 39, none⟩) hm8).trans f39
                    have hce8 : ∀ o1 o2 o3 : Obj, (((w8.alloc o1).alloc o2).alloc o3).cell? ⟨mb, 39, none⟩ = some (.slice none 0 0) := fun o1 o2 o3 => by
                      have hB : Below w8.heap.size w8 (((w8.alloc o1).alloc o2).alloc o3) := (((Below.refl _ _).alloc (Nat.le_refl _) _).alloc (by simp) _).alloc (by simp <;> omega) _
                      exact (hB.cell (p := ⟨mb, 39, none⟩) hm8).trans c39
                    go_wp2_with (refine wpList_map_run rfl 68 _ _ _ rfl rfl _ _ _ rfl rfl rfl HR8.out ?_)
                    go_meet
                    case rel =>
                      have hJH := join_held (J := jJ) (id := mid) HJ8.out HSG.out.mem.len HOG.out HRGG.out HM8.out.1 HM8.out.2.2.2 HMF1.out.m0 HMF1.out.m58 ⟨hpG.1, hpG.2.1, hpG.2.2.1, hpG.2.2.2, by omega, by omega, by omega⟩
                      exact ⟨_, hJH, (HMF1.out.set (o := 15) (v := jng) (Or.inr (Or.inl rfl))).set (o := 39) (Or.inr (Or.inr (Or.inl rfl)))⟩
                  · have hHe' : jHeld = false := by simpa using hHe
                    subst hHe'
                    go_wp2_with (refine wpList_map_run rfl 68 _ _ _ rfl rfl _ _ _ rfl rfl rfl HR8.out ?_)
                    go_meet
                    case rel =>
                      have hl1 : M1.length = 74 := HSG.out.mem.len
                      refine ⟨M1.set 15 jng, ⟨HJ8.out.low, HJ8.out.mem, HJ8.out.rd, HJ8.out.hld, fun j v hj => (World.cell?_of_block (a := ⟨ob, 0 + j, none⟩) (HJ8.out.oth ob (by omega) (by omega))).trans (HOG.out j v hj), fun j v hj => (World.cell?_of_block (a := ⟨rg, 0 + j, none⟩) (HJ8.out.oth rg (by omega) (by omega))).trans (HRGG.out j v hj), (List.getElem?_set_ne (by omega)).trans HM8.out.1, (List.getElem?_set_ne (by omega)).trans HM8.out.2.2.2, ?_, by rw [HJ8.out.sz]; omega⟩, HMF1.out.set (by omega)⟩
                      exact aft0 HJ8.out.mem (List.getElem?_set_self (by omega)) (HMF1.out.set (by omega)).m0 (HMF1.out.set (by omega)).m58 HJ8.out.sq (by omega) ((List.getElem?_set_ne (by omega)).trans HM8.out.2.2.1)
                · have hOn' : jOn = false := by simpa using hOn
                  subst hOn'
                  go_wp2_with fail
                  go_meet
                  case rel =>
                    refine ⟨M1, ⟨HSG.out.low, HSG.out.mem, HSG.out.rd, HSG.out.hld, HOG.out, HRGG.out, HM8.out.1, HM8.out.2.2.2, ?_, by have := HSG.out.pl; omega⟩, HMF1⟩
                    exact aft_not HSG.out.mem ⟨#[]⟩ HM8.out.2.1 (by rw [Lib.toList_data]; rfl)
    · have hb0 : (4096 : Int) < ((tot lk : Nat) : Int) := by omega
      go_wp2
      go_ret
      exact ⟨rfl, ((Below.refl _ _).alloc (Nat.le_refl _) _).trans (HW.out.mono (Nat.le_succ _))⟩
end Go.Proofs.Ybulkdvuo
