import Derived.Test.YbulkdvuoTk4
namespace Go.Proofs.Ybulkdvuo
open Go.RowKit
set_option linter.unusedSimpArgs false
set_option maxRecDepth 40000 in
set_option maxHeartbeats 8000000 in
theorem t42 {la : Option Addr} {lk : List In1} {lc S0 mb hb g ob hib pt rf inb enb jb : Nat} {c : Pm} {now fr fi id jJ : Int} {jOn jHeld : Bool} {l : List Int} {es : Array MapEntry} {ck : Nat} {ids : List Tri} {AB0 GB0 RB0 : Nat → Nat} {w wq : World} {u0 u1 u2 u3 u7 u8 u11 u24 u25 u26 u27 u31 u35 u36 u38 u39 u40 u78 u79 u80 u81 u82 u83 u84 u85 u86 u87 u88 u89 u90 u91 u92 u93 u94 u95 u96 u97 u98 u99 u100 u101 u102 u103 u104 u105 u106 u107 u108 u109 u110 u111 u112 u113 u114 u115 u116 u117 u118 u119 u120 u121 u122 u123 u124 u125 u126 u127 u128 u129 u130 u131 u132 u133 u134 u135 u136 u137 u138 u139 u140 u141 u142 u143 u144 u145 u146 u147 u148 u149 u150 u151 u152 u153 u154 u155 u156 u157 u158 u159 u160 u161 u162 u163 u164 u165 u166 u167 u168 u169 u170 u171 u172 u173 u174 u175 u176 u177 u178 u179 u180 u181 u182 u183 u184 u185 u186 u187 u188 u189 u190 u191 u192 u193 u194 u195 u196 u197 u198 u199 u200 u201 u202 u203 u204 u205 u206 u207 u208 u209 u210 u211 u212 u213 u214 u215 u216 u217 u218 u219 u220 u221 u222 u223 u224 u225 u226 u227 u228 u229 u230 u231 u232 : Value}
    (b1 : lk.length ≤ 4096) (hL : RdL w la lk) (hok : ∀ x ∈ lk, x.ok) (hl : ∀ x ∈ lk, x.refs.length ≤ 4096) (hLr : ∀ x ∈ lk, Rd8 w x.ra x.refs) (hB : Below w.heap.size w wq) (hmb : w.heap.size ≤ mb) (c7 : -128 ≤ fi ∧ fi ≤ 127) (c8 : -32768 ≤ fr ∧ fr ≤ 32767) (c10 : -32768 ≤ jJ ∧ jJ ≤ 32767) (hca : c.after = aftOf jOn jHeld jJ)
    (hj : wq.cell? ⟨jb, 0, none⟩ = some (.bool jOn) ∧ wq.cell? ⟨jb, 1, none⟩ = some (.bool jHeld) ∧ wq.cell? ⟨jb, 3, none⟩ = some (.int .i16 jJ)) (hjm : jb ≠ mb) (hjS : jb < S0)
    (hE : EvIf wq S0 mb hb g ob hib c now fr fi id l es ck ids) (hU : Pu c now fr fi id l es ck hb ids) (hQ : Hp0 wq S0 pt rf inb enb lk.length AB0 GB0 RB0 []) (m42 : wq.cell? ⟨mb, 42, none⟩ = some (.slice none 0 0)) (f42 : wq.frozen? ⟨mb, 42, none⟩ = false) (hmS : mb < S0) (hSW : S0 ≤ wq.heap.size) :
    Code.wp Yba.prog (cdOf 23 Yba.f3.body) (bodyPost Yba.prog Yba.f3 fun e w' => e = .returned (.bool true) ∧ Below w.heap.size w w') { tmps := #[u0, u1, u2, u3, .int .i32 now, .int .i64 c.until_, .slice la lk.length lc, u7, u8, .int .i8 fi, .int .i16 fr, u11, undef, undef, undef, undef, undef, undef, undef, undef, undef, undef, undef, .pointer (some ⟨jb, 0, none⟩), u24, u25, u26, u27, .int .i64 c.T, .int .i64 c.P, .int .i64 c.r, u31, .int .i64 id, .pointer (some ⟨mb, 0, none⟩), .slice (some ⟨hib, 0, none⟩) ids.length ids.length, u35, u36, .slice (some ⟨ob, 0, none⟩) l.length l.length, u38, u39, u40, .slice (some ⟨pt, 0, none⟩) lk.length lk.length, .slice (some ⟨rf, 0, none⟩) lk.length lk.length, .slice (some ⟨inb, 0, none⟩) lk.length lk.length, .slice (some ⟨enb, 0, none⟩) lk.length lk.length, undef, undef, undef, undef, undef, undef, undef, undef, undef, undef, undef, undef, undef, undef, undef, undef, undef, undef, undef, undef, undef, undef, undef, undef, undef, undef, undef, undef, undef, undef, undef, undef, undef, u78, u79, u80, u81, u82, u83, u84, u85, u86, u87, u88, u89, u90, u91, u92, u93, u94, u95, u96, u97, u98, u99, u100, u101, u102, u103, u104, u105, u106, u107, u108, u109, u110, u111, u112, u113, u114, u115, u116, u117, u118, u119, u120, u121, u122, u123, u124, u125, u126, u127, u128, u129, u130, u131, u132, u133, u134, u135, u136, u137, u138, u139, u140, u141, u142, u143, u144, u145, u146, u147, u148, u149, u150, u151, u152, u153, u154, u155, u156, u157, u158, u159, u160, u161, u162, u163, u164, u165, u166, u167, u168, u169, u170, u171, u172, u173, u174, u175, u176, u177, u178, u179, u180, u181, u182, u183, u184, u185, u186, u187, u188, u189, u190, u191, u192, u193, u194, u195, u196, u197, u198, u199, u200, u201, u202, u203, u204, u205, u206, u207, u208, u209, u210, u211, u212, u213, u214, u215, u216, u217, u218, u219, u220, u221, u222, u223, u224, u225, u226, u227, u228, u229, u230, u231, u232, undef, undef, undef, undef, undef, undef, undef, undef, undef, undef, undef, undef, undef, undef, undef, undef, undef, undef, undef, undef, undef, undef, undef, undef, undef, undef, undef, undef, undef, undef, undef, undef, undef, undef, undef, undef, undef, undef, undef, undef, undef, undef, undef, undef, undef, undef, undef, undef, undef, undef, undef, undef, undef, undef, undef, undef, undef, undef, undef, undef, undef, undef, undef, undef, undef, undef, undef, undef, undef, undef, undef, undef, undef, undef, undef, undef, undef, undef, undef, undef, undef, undef, undef, undef, undef, undef, undef, undef, undef, undef, undef, undef, undef, undef, undef, undef, undef, undef, undef, undef, undef, undef, undef, undef, undef, undef, undef, undef, undef, undef, undef, undef, undef, undef, undef, undef, undef, undef, undef, undef, undef, undef, undef, undef, undef, undef, undef, undef, undef, undef, undef, undef, undef, undef, undef, undef, undef, undef, undef, undef, undef, undef, undef, undef, undef, undef, undef, undef, undef, undef, undef, undef, undef, undef, undef, undef, undef, undef, undef, undef, undef, undef, undef, undef, undef, undef, undef, undef, undef, undef, undef, undef, undef, undef, undef, undef, undef, undef, undef, undef, undef, undef, undef, undef, undef, undef, undef, undef, undef, undef, undef, undef, undef, undef, undef, undef, undef, undef, undef, undef, undef, undef, undef, undef, undef, undef, undef, undef, undef, undef, undef, undef, undef, undef, undef, undef, undef, undef, undef, undef, undef, undef, undef, undef, undef, undef, undef, undef, undef, undef, undef, undef, undef, undef, undef, undef, undef, undef, undef, undef, undef, undef, undef, undef, undef, undef, undef, undef, undef, undef, undef, undef, undef, undef, undef, undef, undef, undef, undef, undef, undef, undef, undef, undef, undef, undef, undef, undef, undef, undef, undef, undef, undef, undef, undef, undef, undef, undef, undef, undef, undef, undef, undef, undef, undef, undef, undef, undef, undef, undef, undef, undef, undef, undef, undef, undef, undef, undef, undef, undef, undef, undef, undef, undef, undef, undef, undef, undef, undef, undef, undef, undef, undef, undef, undef, undef, undef, undef, undef, undef, undef, undef, undef, undef, undef, undef, undef, undef, undef, undef, undef, undef, undef, undef, undef, undef, undef, undef, undef, undef, undef, undef, undef, undef, undef, undef, undef, undef, undef, undef, undef, undef, undef, undef, undef, undef, undef, undef, undef, undef, undef, undef, undef, undef, undef, undef, undef, undef, undef, undef, undef, undef, undef, undef, undef, undef, undef, undef, undef, undef, undef, undef, undef, undef, undef, undef, undef, undef, undef, undef, undef, undef, undef, undef, undef, undef, undef, undef, undef, undef, undef, undef, undef, undef, undef], defers := [] } wq := by
  have HL : Hid (RdL w la lk) := hL
  have HO : Hid (∀ x ∈ lk, x.ok) := hok
  have HLL : Hid (∀ x ∈ lk, x.refs.length ≤ 4096) := hl
  have HLR : Hid (∀ x ∈ lk, Rd8 w x.ra x.refs) := hLr
  have HB : Hid (Below w.heap.size w wq) := hB
  have HE : Hid (EvIf wq S0 mb hb g ob hib c now fr fi id l es ck ids) := hE
  have HU : Hid (Pu c now fr fi id l es ck hb ids) := hU
  have HQ : Hid (Hp0 wq S0 pt rf inb enb lk.length AB0 GB0 RB0 []) := hQ
  have HJ : Hid (wq.cell? ⟨jb, 0, none⟩ = some (.bool jOn) ∧ wq.cell? ⟨jb, 1, none⟩ = some (.bool jHeld) ∧ wq.cell? ⟨jb, 3, none⟩ = some (.int .i16 jJ)) := hj
  have HM : Hid (wq.cell? ⟨mb, 42, none⟩ = some (.slice none 0 0) ∧ wq.frozen? ⟨mb, 42, none⟩ = false) := ⟨m42, f42⟩
  obtain ⟨q1, q2, q3, q4, q5⟩ := hQ.pq
  clear hL hok hl hLr hB hE hU hQ hj m42 f42
  conv => arg 2; whnf
  go_upto_block 6 with fail
  go_cut [] from 235 to 301 (fun wx => ∃ (AB GB RB : Nat → Nat), Hid (Hp0 wx S0 pt rf inb enb lk.length AB GB RB lk) ∧ Hid (Below S0 wq wx))
  case rest =>
    obtain ⟨AB, GB, RB, x1, x2⟩ := hcut
    rename_i aK
    have hcj : ∀ o, wc.cell? ⟨jb, o, none⟩ = wq.cell? ⟨jb, o, none⟩ := fun o => x2.out.cell (p := ⟨jb, o, none⟩) hjS
    exact aK _ _ (t61 b1 HL.out HO.out HLL.out (HB.out.trans (x2.out.mono (by omega))) hmb c7 c8 c10 hca ⟨(hcj 0).trans HJ.out.1, (hcj 1).trans HJ.out.2.1, (hcj 3).trans HJ.out.2.2⟩ hjm (HE.out.below x2.out hmS) HU.out x1.out ((x2.out.cell (p := ⟨mb, 42, none⟩) hmS).trans HM.out.1) ((x2.out.frozen (p := ⟨mb, 42, none⟩) hmS).trans HM.out.2) hmS (Nat.le_trans hSW x2.out.size))
  case first =>
    go_wp2_with fail
    obtain ⟨tm, htm, hm0, hm1, hm2⟩ := info86
    go_loopw [235] (fun iv wr => ∃ (k : Nat) (AB GB RB : Nat → Nat), k ≤ lk.length ∧ iv = .int .i64 k ∧ Hid (Hp0 wr S0 pt rf inb enb lk.length AB GB RB (lk.take k)) ∧ Hid (Below S0 wq wr)) (fun iv _ => lk.length - (intOf iv).toNat)
    case atStart => exact ⟨0, AB0, GB0, RB0, by omega, rfl, by rw [List.take_zero]; exact HQ, Below.refl _ _⟩
    case round =>
      clear HQ
      obtain ⟨k, AB, GB, RB, hk, rfl, HQ, HS⟩ := hrel
      by_cases hkn : k < lk.length
      · obtain ⟨lab, lo, rfl, hlab, hlr⟩ := HL.out (by omega)
        obtain ⟨⟨J, ra, refs, rc, nl⟩, hx⟩ : ∃ x, lk[k]? = some x := ⟨_, List.getElem?_eq_getElem hkn⟩
        have hxo := HO.out _ (List.mem_of_getElem? hx)
        have hrl : refs.length ≤ 4096 := HLL.out _ (List.mem_of_getElem? hx)
        have HRD : Hid (Rd8 w ra refs) := HLR.out _ (List.mem_of_getElem? hx)
        obtain ⟨⟨J1, J2⟩, ⟨N1, N2⟩, hro, _⟩ := hxo
        have HRO : Hid (∀ t ∈ refs, T8ok t) := hro
        have HBW : Hid (Below w.heap.size w wr) := HB.out.trans (HS.out.mono (by omega))
        obtain ⟨e0, e1, e2⟩ := three_at (rangeAt_below HBW.out (by omega) (flatAt (f := In1.cells) (n := 3) (fun _ _ => rfl) hlr hx))
        have HX : Hid (lk[k]? = some ⟨J, ra, refs, rc, nl⟩) := hx
        dsimp only at e0 e1 e2 J1 J2 N1 N2
        have k0 : (0 : Int) ≤ (k : Int) := by omega
        have k1 : (k : Int) < (lk.length : Int) := by omega
        clear hlr hx hro
        go_upto_region 45 with fail
        clear e0 e1 e2
        have hc46 : ∀ o v, (#[Value.int .i16 J, .slice ra refs.length rc, .int .u8 nl])[o]? = some v → (wr.alloc (.cells #[.int .i16 J, .slice ra refs.length rc, .int .u8 nl] 31)).cell? ⟨wr.heap.size, o, none⟩ = some v := fun o v hv => by
          rw [cell_of_row _ _ o _ _ _ (heap_alloc_new wr _)]; exact hv
        refine gen_wp (fun W => Hid (Below wr.heap.size wr W) ∧ Hid (W.cell? ⟨wr.heap.size, 0, none⟩ = some (.int .i16 J) ∧ W.cell? ⟨wr.heap.size, 1, none⟩ = some (.slice ra refs.length rc) ∧ W.cell? ⟨wr.heap.size, 2, none⟩ = some (.int .u8 nl)) ∧ W.heap.size = wr.heap.size + 1) ⟨(Below.refl _ _).alloc (Nat.le_refl _) _, ⟨hc46 0 _ rfl, hc46 1 _ rfl, hc46 2 _ rfl⟩, by simp⟩ ?_
        clear hc46
        rintro wM ⟨HBM, HCM, hMz⟩
        have HMZ : Hid (wM.heap.size = wr.heap.size + 1) := hMz
        obtain ⟨a0, a1, a2⟩ := HCM.out
        clear hMz
        go_upto_region 46 with (refine wpList_make_full _ rfl _ _ 54 rfl wM.heap.size 86 tm _ 3 Yba.underlying54 htm hm0 hm1 _ _ _ _ refs.length rfl rfl rfl rfl (by rw [hm2]; omega) (by simp [maxLen]; omega) (Nat.le_refl _) ?_; intro w2 ho2 hg2)
        have hB2 : Below wM.heap.size wM w2 := below_grown (Below.refl _ _) hg2 (Nat.le_refl _) (fun k hk => by cases hk)
        have hl2 : wM.heap.size < w2.heap.size := (ho2.lt _ rfl).2
        have HT2 : Hid (w2.there wM.heap.size 0 (refs.length * 3)) := own_there ho2
        have a1' := cell_mono hB2 a1
        have HB2 : Hid (Below wM.heap.size wM w2) := hB2
        clear a0 a1 a2 ho2 hg2 hB2
        go_upto_block 8 with (refine wpList_make_full _ rfl _ _ 54 rfl w2.heap.size 86 tm _ 3 Yba.underlying54 htm hm0 hm1 _ _ _ _ refs.length rfl rfl rfl rfl (by rw [hm2]; omega) (by simp [maxLen]; omega) (Nat.le_refl _) ?_; intro w3 ho3 hg3; have a1'' := cell_mono (below_grown (Below.refl _ _) hg3 (Nat.le_refl _) (fun k hk => by cases hk)) a1')
        have hB3 : Below w2.heap.size w2 w3 := below_grown (Below.refl _ _) hg3 (Nat.le_refl _) (fun k hk => by cases hk)
        have hl3 : w2.heap.size < w3.heap.size := (ho3.lt _ rfl).2
        have HLr0 : Hid (Lr wM w3 wM.heap.size w2.heap.size refs.length [] []) :=
          ⟨HB2.out.trans (hB3.mono (by omega)), there_below hB3 hl2 HT2.out, own_there ho3, fun j v hj => by simp [tcs] at hj, fun j v hj => by simp [tcs] at hj, hl2, hl3⟩
        clear a1' a1'' ho3 hg3 hB3 hl3 HT2 HB2
        have hbm : wr.heap.size < wM.heap.size := by have := HMZ.out; omega
        generalize hB1 : wM.heap.size = B1 at *
        generalize hB2' : w2.heap.size = B2 at *
        have hwr2 : w.heap.size ≤ wr.heap.size := HBW.out.size
        go_cut [] from 251 to 268 (fun wx => Hid (Lr wM wx B1 B2 refs.length (refs.map m4) (refs.map m4)))
        case first =>
          go_wp2_with fail
          generalize hX : wr = wX at *
          clear hX
          go_loopw [251] (fun iv wr => ∃ i : Nat, i ≤ refs.length ∧ iv = .int .i64 i ∧ Hid (Lr wM wr B1 B2 refs.length ((refs.take i).map m4) ((refs.take i).map m4))) (fun iv _ => refs.length - (intOf iv).toNat)
          case atStart => exact ⟨0, by omega, rfl, HLr0⟩
          case round =>
            clear HLr0
            obtain ⟨i, hi, rfl, HLr⟩ := hrel
            by_cases hin : i < refs.length
            · obtain ⟨rb, ro, rfl, hrb, hrr⟩ := HRD.out (by omega)
              obtain ⟨t, ht⟩ : ∃ t, refs[i]? = some t := ⟨_, List.getElem?_eq_getElem hin⟩
              have hto := HRO.out t (List.mem_of_getElem? ht)
              have hBr : Below w.heap.size w wr := HBW.out.trans ((HBM.out.trans (HLr.out.low.mono (by omega))).mono hwr2)
              obtain ⟨e0, e1, e2⟩ := three_at (rangeAt_below hBr hrb (flatAt (f := t8) (n := 3) (fun _ _ => rfl) hrr ht))
              have hd : ((refs.take i).map m4).length = i := by simp; omega
              have hnx : (refs.take (i + 1)).map m4 = (refs.take i).map m4 ++ [m4 t] := by rw [List.take_add_one, ht]; simp
              have HNX : Hid ((refs.take (i + 1)).map m4 = (refs.take i).map m4 ++ [m4 t]) := hnx
              have HDL : Hid (((refs.take i).map m4).length = i) := hd
              clear hnx hrr hBr hd
              go_wp2_with fail
              refine (id_any t.1 t.2.1 t.2.2 hto.1 hto.2.1 hto.2.2 _).mono ?_
              rintro e w4 ⟨rfl, hb4⟩
              have HL4 : Hid (Lr wM w4 B1 B2 refs.length ((refs.take i).map m4) ((refs.take i).map m4)) := (HLr.out.below ((Below.refl _ _).alloc (Nat.le_refl _) _)).below hb4
              have hth := HL4.out.t1
              have g0 := hth (i * 3) (by omega)
              have g1 := hth (i * 3 + 1) (by omega)
              have g2 := hth (i * 3 + 2) (by omega)
              rw [Nat.zero_add] at g0 g1 g2
              obtain ⟨o0, hu0⟩ := Option.isSome_iff_exists.1 g0.1
              obtain ⟨o1, hu1⟩ := Option.isSome_iff_exists.1 g1.1
              obtain ⟨o2, hu2⟩ := Option.isSome_iff_exists.1 g2.1
              have f0 := g0.2
              have f1 := g1.2
              have f2 := g2.2
              have i0 : (0 : Int) ≤ (i : Int) := by omega
              have i1 : (i : Int) < (refs.length : Int) := by omega
              have hp1 : Lr wM (w4.setCells B1 (i * 3) (tc (m4 t))) B1 B2 refs.length ((refs.take i).map m4 ++ [m4 t]) ((refs.take i).map m4) := by
                have h9 := HL4.out.put1 (by rw [HDL.out]; exact hin) (m4 t)
                rw [HDL.out] at h9; exact h9
              have HP1 : Hid (Lr wM (w4.setCells B1 (i * 3) (tc (m4 t))) B1 B2 refs.length ((refs.take i).map m4 ++ [m4 t]) ((refs.take i).map m4)) := hp1
              clear hth g0 g1 g2 e0 e1 e2 hp1
              go_upto_region 51 with fail
              clear hu0 hu1 hu2 f0 f1 f2
              refine gen_wp (fun W => Hid (Lr wM W B1 B2 refs.length ((refs.take i).map m4 ++ [m4 t]) ((refs.take i).map m4))) HP1 ?_
              clear HP1 HL4 HLr
              rintro w5 HL5
              have hat : ((refs.take i).map m4 ++ [m4 t])[i]? = some (m4 t) := by
                rw [List.getElem?_append_right (by rw [HDL.out]; exact Nat.le_refl _), HDL.out, Nat.sub_self]; rfl
              obtain ⟨r0, r1, r2⟩ := tcs_at HL5.out.r1 hat
              dsimp only [m4] at r0 r1 r2
              have hth := HL5.out.t2
              have g0 := hth (i * 3) (by omega)
              have g1 := hth (i * 3 + 1) (by omega)
              have g2 := hth (i * 3 + 2) (by omega)
              rw [Nat.zero_add] at g0 g1 g2
              obtain ⟨o3, hu0⟩ := Option.isSome_iff_exists.1 g0.1
              obtain ⟨o4, hu1⟩ := Option.isSome_iff_exists.1 g1.1
              obtain ⟨o5, hu2⟩ := Option.isSome_iff_exists.1 g2.1
              have f0 := g0.2
              have f1 := g1.2
              have f2 := g2.2
              have hp2 : Lr wM (w5.setCells B2 (i * 3) (tc (m4 t))) B1 B2 refs.length ((refs.take i).map m4 ++ [m4 t]) ((refs.take i).map m4 ++ [m4 t]) := by
                have h9 := HL5.out.put2 (by rw [HDL.out]; exact hin) (m4 t)
                rw [HDL.out] at h9; exact h9
              have HP2 : Hid (Lr wM (w5.setCells B2 (i * 3) (tc (m4 t))) B1 B2 refs.length ((refs.take i).map m4 ++ [m4 t]) ((refs.take i).map m4 ++ [m4 t])) := hp2
              clear hth g0 g1 g2 hat hp2
              go_wp2_with fail
              go_roundw
              case rel => exact ⟨i + 1, by omega, by go_num, by rw [HNX.out]; exact HP2⟩
              case measure => simp [intOf]; omega
            · obtain rfl : i = refs.length := by omega
              rw [List.take_length] at HLr
              go_wp2_with fail
              go_meet
              case rel => exact HLr
        case rest =>
          have HLr := hcut
          clear HLr0 hcut
          have hBc : Below wr.heap.size wr wc := HBM.out.trans (HLr.out.low.mono (by omega))
          have HQc : Hid (Hp0 wc S0 pt rf inb enb lk.length AB GB RB (lk.take k)) := HQ.out.below hBc
          obtain ⟨m0, m1, m2⟩ := HCM.out
          have a0 := (HLr.out.low.cell (p := ⟨wr.heap.size, 0, none⟩) hbm).trans m0
          have a2 := (HLr.out.low.cell (p := ⟨wr.heap.size, 2, none⟩) hbm).trans m2
          have HSC : Hid (Below S0 wq wc) := HS.out.trans (hBc.mono (by have := HQ.out.pq; omega))
          clear m0 m1 m2 hBc
          have hmin : (min nl.toNat refs.length : Nat) = (ackOf ⟨J, ra, refs, rc, nl⟩).nl := rfl
          have HMN : Hid ((min nl.toNat refs.length : Nat) = (ackOf ⟨J, ra, refs, rc, nl⟩).nl) := hmin
          clear hmin
          go_upto_if 275 with fail
          go_cut [51] from 272 to 277 (fun v wx => v = .int .i64 ((min nl.toNat refs.length : Nat) : Int) ∧ wx = wc)
          case first =>
            by_cases hg : (refs.length : Int) < nl
            · go_wp2_with fail
              go_meet
              case rel => exact ⟨by rw [Nat.min_eq_right (by omega)], rfl⟩
            · have hng : ((min nl.toNat refs.length : Nat) : Int) = nl := by omega
              have HNG : Hid (((min nl.toNat refs.length : Nat) : Int) = nl) := hng
              clear hng
              go_wp2_with fail
              go_meet
              case rel => exact ⟨by rw [HNG.out], rfl⟩
          case rest =>
            obtain ⟨rfl, hw⟩ := hcut
            subst hw
            generalize hY : wc = wY at *
            clear hY
            rw [HMN.out]
            generalize hNL : (ackOf ⟨J, ra, refs, rc, nl⟩).nl = NL at *
            have hqe : enb < wr.heap.size := HQ.out.pq.2.2.2.2
            have hstep := HQc.out.step (B1 := B1) (B2 := B2) HX.out hkn HLr.out.r1 HLr.out.r2 ⟨by omega, by have := HLr.out.lt; omega⟩ ⟨by have := HLr.out.lt; omega, HLr.out.lt.2⟩ (fun j hj => by have h9 := HQ.out.pa j (by rw [List.length_take]; omega); have := HLr.out.lt; omega)
            have HST : Hid (Hp0 (stepW wY pt rf inb enb k B1 B2 ⟨J, ra, refs, rc, nl⟩) S0 pt rf inb enb lk.length (fun j => if j = k then wY.heap.size else AB j) (fun j => if j = k then B2 else GB j) (fun j => if j = k then B1 else RB j) (lk.take (k + 1)) ∧ Below S0 wq (stepW wY pt rf inb enb k B1 B2 ⟨J, ra, refs, rc, nl⟩)) := ⟨hstep.1, HSC.out.trans hstep.2.1⟩
            clear hstep
            have HSW : Hid (Hp0 (((((wY.setCell ⟨rf, k, none⟩ (.slice (some ⟨B1, 0, none⟩) refs.length refs.length)).setCell ⟨inb, k, none⟩ (.int .i64 (NL : Nat))).setCell ⟨enb, k, none⟩ (.int .i64 (NL : Nat))).setCell ⟨pt, k, none⟩ (.pointer (some ⟨wY.heap.size, 0, none⟩))).alloc (.cells (ackCells J B2 refs.length NL) 101)) S0 pt rf inb enb lk.length (fun j => if j = k then wY.heap.size else AB j) (fun j => if j = k then B2 else GB j) (fun j => if j = k then B1 else RB j) (lk.take (k + 1)) ∧ Below S0 wq (((((wY.setCell ⟨rf, k, none⟩ (.slice (some ⟨B1, 0, none⟩) refs.length refs.length)).setCell ⟨inb, k, none⟩ (.int .i64 (NL : Nat))).setCell ⟨enb, k, none⟩ (.int .i64 (NL : Nat))).setCell ⟨pt, k, none⟩ (.pointer (some ⟨wY.heap.size, 0, none⟩))).alloc (.cells (ackCells J B2 refs.length NL) 101))) := by
              have h9 := HST.out
              unfold stepW at h9
              rw [World.setCell_alloc_past _ _ _ _ (by have := HQc.out.pq; simp; omega)] at h9
              dsimp only at h9
              rw [hNL] at h9
              exact h9
            have hHQ := HQc.out
            have g1 := hHQ.tr k hkn
            have g2 := hHQ.ti k hkn
            have g3 := hHQ.te k hkn
            have g4 := hHQ.tp k hkn
            rw [Nat.zero_add] at g1 g2 g3 g4
            obtain ⟨o1, hu1⟩ := Option.isSome_iff_exists.1 g1.1
            obtain ⟨o2, hu2⟩ := Option.isSome_iff_exists.1 g2.1
            obtain ⟨o3, hu3⟩ := Option.isSome_iff_exists.1 g3.1
            obtain ⟨o4, hu4⟩ := Option.isSome_iff_exists.1 g4.1
            have f1 := g1.2
            have f2 := g2.2
            have f3 := g3.2
            have f4 := g4.2
            have d1 : ¬ (rf = inb) := by omega
            have d2 : ¬ (inb = rf) := by omega
            have d3 : ¬ (rf = enb) := by omega
            have d4 : ¬ (enb = rf) := by omega
            have d5 : ¬ (rf = pt) := by omega
            have d6 : ¬ (pt = rf) := by omega
            have d7 : ¬ (inb = enb) := by omega
            have d8 : ¬ (enb = inb) := by omega
            have d9 : ¬ (inb = pt) := by omega
            have d10 : ¬ (pt = inb) := by omega
            have d11 : ¬ (enb = pt) := by omega
            have d12 : ¬ (pt = enb) := by omega
            have hpw : pt < wY.heap.size := by have := hHQ.pq; omega
            have hrw : ¬ (rf = wr.heap.size) := by have := HQ.out.pq; omega
            have hiw : ¬ (inb = wr.heap.size) := by have := HQ.out.pq; omega
            have hew : ¬ (enb = wr.heap.size) := by have := HQ.out.pq; omega
            have hrw' : ¬ (wr.heap.size = rf) := by have := HQ.out.pq; omega
            have hiw' : ¬ (wr.heap.size = inb) := by have := HQ.out.pq; omega
            have hew' : ¬ (wr.heap.size = enb) := by have := HQ.out.pq; omega
            clear hHQ g1 g2 g3 g4 hNL
            go_wp2_with fail
            go_roundw
            case rel => exact ⟨k + 1, _, _, _, by omega, by go_num, HSW.out.1, HSW.out.2⟩
            case measure => simp [intOf]; omega
      · obtain rfl : k = lk.length := by omega
        rw [List.take_length] at HQ
        go_wp2_with fail
        go_meet
        case rel => exact ⟨AB, GB, RB, HQ, HS⟩
end Go.Proofs.Ybulkdvuo
