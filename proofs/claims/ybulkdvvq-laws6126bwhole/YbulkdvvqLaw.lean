import Derived.Test.YbulkdvvqFin
namespace Go.Proofs.Ybulkdvvq
open Go.RowKit
set_option linter.unusedSimpArgs false

set_option maxRecDepth 20000 in
set_option maxHeartbeats 40000000 in
/-- the law, up to 2^20 in all -/
theorem law_any (da : Option Addr) (dc : Nat) (l : List UInt8) (esc amp so sc : Bool) (pt : ByteArray) (pa : Option Addr) (pc : Nat) (ps : List ByteArray) (bf : ByteArray) (sa : Option Addr) (ssc : Nat) (sp : List ByteArray) (af : ByteArray) (w : World)
    (hd : InB w da l dc) (hp : InS w pa ps pc) (hs : InS w sa sp ssc)
    (hT : l.length + pt.size + bf.size + af.size + ps.length + sp.length + tot ps + tot sp ≤ 1048576) :
    Calls Yba.prog 3 #[.slice da l.length dc, .bool esc, .bool amp, .bool so, .bool sc, .string pt, .slice pa ps.length pc, .string bf, .slice sa sp.length ssc, .string af] w fun e w' => e = .returned (.bool true) ∧ Below w.heap.size w w' := by
  have HD : Hid (InB w da l dc) := hd
  have HPS : Hid (RdS w pa ps) := hp.rd
  have HSI : Hid (InS w sa sp ssc) := hs
  have HSS : Hid (RdS w sa sp) := hs.rd
  clear hp hs hd
  have h0' : (l.length : Int) + pt.size + bf.size + af.size + ps.length + sp.length ≤ 1048576 := by omega
  have e3 := psum_all ps
  have e4 := psum_all sp
  go_enter Yba.func3, Yba.ntmps3
  go_wp2_with fail
  go_loopw [21, 22] (fun t i wr => ∃ (k : Nat), k ≤ ps.length ∧ i = .int .i64 k ∧ t = .int .i64 ((l.length + pt.size + bf.size + af.size + ps.length + sp.length + psum ps k : Nat) : Int) ∧ wr = w) (fun _ i _ => ps.length - (intOf i).toNat)
  case atStart => exact ⟨0, Nat.zero_le _, rfl, by simp [psum], rfl⟩
  case round =>
    obtain ⟨k, hk, rfl, rfl, hww⟩ := hrel
    have hww := hww.symm
    subst hww
    by_cases hlt : k < ps.length
    · rcases HPS.out with hn | ⟨b, off, rfl, hb, hc⟩
      · rw [hn] at hlt; simp at hlt
      have c1 := hc k hlt
      have e1 := psum_succ ps k hlt
      have e2 := psum_le ps (k + 1)
      clear hc
      go_wp2_with fail
      go_roundw
      case rel => exact ⟨k + 1, by omega, by go_num, by rw [← e1]; push_cast; go_num, trivial⟩
      case measure => simp [intOf]; omega
    · obtain rfl : k = ps.length := by omega
      go_wp2_with fail
      go_loopw [21, 23] (fun t i wx => ∃ (k : Nat), k ≤ sp.length ∧ i = .int .i64 k ∧ t = .int .i64 ((l.length + pt.size + bf.size + af.size + ps.length + sp.length + tot ps + psum sp k : Nat) : Int) ∧ wx = w) (fun _ i _ => sp.length - (intOf i).toNat)
      case atStart => exact ⟨0, Nat.zero_le _, rfl, by rw [show psum sp 0 = 0 from rfl]; simp [e3], rfl⟩
      case round =>
        obtain ⟨k, hk, rfl, rfl, hww⟩ := hrel
        have hww := hww.symm
        subst hww
        by_cases hlt : k < sp.length
        · rcases HSS.out with hn | ⟨b, off, rfl, hb, hc⟩
          · rw [hn] at hlt; simp at hlt
          have c1 := hc k hlt
          have e1 := psum_succ sp k hlt
          have e2 := psum_le sp (k + 1)
          clear hc
          go_wp2_with fail
          go_roundw
          case rel => exact ⟨k + 1, by omega, by go_num, by rw [← e1]; push_cast; go_num, trivial⟩
          case measure => simp [intOf]; omega
        · obtain rfl : k = sp.length := by omega
          clear hk
          go_wp2_with fail
          refine (cloneB_any da l dc _ HD.out (by omega)).mono ?_
          rintro e w1 ⟨og, rfl, h1, b1⟩
          have HO1 : Hid (Byt w1 w.heap.size og l) := h1
          have B1 : Hid (Below w.heap.size w w1) := b1
          clear h1 b1
          go_wp2_with fail
          refine (cloneS_any sa sp ssc _ (HSI.out.kept B1.out) (by omega)).mono ?_
          rintro e w2 ⟨spa, spc', rfl, h2, b2⟩
          have HR2 : Hid (RdS w2 spa sp) := h2
          have B2 : Hid (Below w1.heap.size w1 w2) := b2
          clear h2 b2
          have hmk := run_make_row' (P := Yba.prog) 26 39 .nilIface 16 Yba.underlying26 info39 rfl .i64 .i64 ps.length (by omega) (by omega)
          go_wp2_with fail
          have hz1 : w.heap.size ≤ w1.heap.size := B1.out.size
          have hz2 : w1.heap.size ≤ w2.heap.size := B2.out.size
          have HPS2 : Hid (RdS w2 pa ps) := (HPS.out.kept B1.out (Nat.le_refl _)).kept B2.out (Nat.le_refl _)
          go_loopw [27] (fun i wx => ∃ (k : Nat), k ≤ ps.length ∧ i = .int .i64 k ∧ wx.heap.size = w2.heap.size + 1 + k ∧ Hid (wx.rowIs w2.heap.size 39 ps.length (expRow w2.heap.size k)) ∧ Hid (∀ j (hj : j < ps.length), j < k → wx.cell? ⟨w2.heap.size + 1 + j, 0, none⟩ = some (.string ps[j])) ∧ Hid (Below w2.heap.size w2 wx)) (fun i _ => ps.length - (intOf i).toNat)
          case atStart => exact ⟨0, Nat.zero_le _, rfl, by simp, (World.rowIs_made w2 _ ps.length 39).congr (fun i _ => by simp [expRow]), (fun j _ hj => by omega), (Below.refl _ w2).alloc (Nat.le_refl _) _⟩
          case round =>
            obtain ⟨k, hk, rfl, hwz, HR, HC, HB⟩ := hrel
            have HWZ : Hid (wr.heap.size = w2.heap.size + 1 + k) := hwz
            have hl2 : w2.heap.size < wr.heap.size := by omega
            clear hwz
            by_cases hlt : k < ps.length
            · rcases HPS2.out with hn | ⟨b, off, rfl, hb, hc⟩
              · rw [hn] at hlt; simp at hlt
              have c1 : wr.cell? ⟨b, off + k, none⟩ = some (.string ps[k]) := (HB.out.cell (p := ⟨b, off + k, none⟩) hb).trans (hc k hlt)
              clear hc
              have c2 := HR.out.cell hlt
              have c3 := HR.out.frozen k
              go_wp2_with fail
              go_roundw
              case rel =>
                refine ⟨k + 1, by omega, by go_num, by simp [HWZ.out]; omega, ?_, ?_, ?_⟩
                · rw [HWZ.out]; exact (expRow_set HR.out).alloc _
                · exact exp_cells HWZ.out hlt HC.out rfl
                · exact (HB.out.setCell (p := ⟨w2.heap.size, k, none⟩) (Nat.le_refl _) _).alloc (by simp; omega) _
              case measure => simp [intOf]; omega
            · obtain rfl : k = ps.length := by omega
              clear hk
              have BW : Hid (Below w.heap.size w wr) := (B1.out.trans (B2.out.mono hz1)).trans (HB.out.mono (by omega))
              have hzw : w.heap.size ≤ wr.heap.size := BW.out.size
              go_wp2_with fail
              refine (cloneB_any da l dc _ (HD.out.kept ((BW.out.alloc hzw _).alloc (by simp; omega) _)) (by omega)).mono ?_
              rintro e w5 ⟨work, rfl, h5, b5⟩
              have H5 : Hid (Byt w5 (wr.heap.size + 2) work l) := h5.lower (by simp)
              have hz5 : wr.heap.size + 2 ≤ w5.heap.size := by have := b5.size; simp at this; omega
              have K5 : Hid (∀ b o, b < wr.heap.size → w5.cell? ⟨b, o, none⟩ = wr.cell? ⟨b, o, none⟩) := fun b o hb =>
                (b5.cell (p := ⟨b, o, none⟩) (by simp; omega)).trans ((World.cell?_alloc_past _ _ _ (by simp; omega)).trans (World.cell?_alloc_past _ _ _ hb))
              have HM5 : Hid (Must w5 (wr.heap.size + 1) wr.heap.size (some ⟨w2.heap.size, 0, none⟩) spa ps.length ps.length sp.length spc' esc amp so sc bf af) := by
                refine ⟨?_, ?_, ?_, ?_, ?_, ?_, ?_, ?_, ?_⟩ <;> (rw [b5.cell (by simp)]; simp)
              have HP5 : Hid (w5.cell? ⟨wr.heap.size, 0, none⟩ = some (.string pt)) := by
                show w5.cell? _ = _
                rw [b5.cell (by simp; omega)]; simp
              have HE5 : Hid (Exps w5 (wr.heap.size + 2) (some ⟨w2.heap.size, 0, none⟩) ps) := by
                refine Or.inr ⟨w2.heap.size, rfl, by omega, fun i hi => ⟨w2.heap.size + 1 + i, by have := HWZ.out; omega, ?_, ?_⟩⟩
                · rw [K5.out _ _ hl2, HR.out.cell hi]; simp [expRow, hi]
                · rw [K5.out _ _ (by have := HWZ.out; omega)]; exact HC.out i hi hi
              have HS5 : Hid (RdSB w5 (wr.heap.size + 2) spa sp) := by
                rcases HR2.out with h | ⟨b, off, h0, h1, h2⟩
                · exact Or.inl h
                · exact Or.inr ⟨b, off, h0, by omega, fun i hi => by rw [K5.out _ _ (by omega), ← h2 i hi]; exact HB.out.cell (p := ⟨b, off + i, none⟩) h1⟩
              have B5 : Hid (Below w.heap.size w w5) := ((BW.out.alloc hzw _).alloc (by simp; omega) _).trans (b5.mono (by simp; omega))
              have BR5 : Hid (Below wr.heap.size wr w5) := (((Below.refl _ _).alloc (Nat.le_refl _) _).alloc (by simp) _).trans (b5.mono (by simp; omega))
              clear h5 b5
              go_wp2_with fail
              refine (text_any (wr.heap.size + 2) (wr.heap.size + 1) wr.heap.size work l pt bf af _ spa _ spc' ps sp esc amp so sc _ H5.out hz5 (by omega) (by omega) HP5.out HM5.out HE5.out HS5.out (by omega)).mono ?_
              rintro e w6 ⟨got, rfl, h6, x6⟩
              have O6 : ∀ b o, b < wr.heap.size + 2 → w6.cell? ⟨b, o, none⟩ = w5.cell? ⟨b, o, none⟩ := x6.old H5.out hz5
              have B56 : Below (wr.heap.size + 2) w5 w6 := x6.below hz5 H5.out.block
              have B6 : Hid (Below w.heap.size w w6) := B5.out.trans (B56.mono (by omega))
              have HF6 : Hid (Fin6 w6 got work og (l ++ textOf esc amp so sc pt bf af sp ps) l spa sa pa da sp ps dc (wr.heap.size + 1) esc amp) := by
                refine ⟨h6.rdb, H5.out.rdb_old x6, ?_, ?_, HSS.out.kept B6.out (Nat.le_refl _), HPS.out.kept B6.out (Nat.le_refl _), HD.out.kept B6.out, ?_, ?_⟩
                · obtain ⟨a, c, e, r⟩ := HO1.out.rdb
                  exact ⟨a, c, e, ((r.kept B2.out (Nat.le_refl _)).kept HB.out (Nat.le_refl _)).kept (BR5.out.trans (B56.mono (by omega))) (Nat.le_refl _)⟩
                · exact (HR2.out.kept HB.out (Nat.le_refl _)).kept (BR5.out.trans (B56.mono (by omega))) (Nat.le_refl _)
                · rw [O6 _ _ (by omega)]; exact HM5.out.c2
                · rw [O6 _ _ (by omega)]; exact HM5.out.c3
              clear O6 B56 h6 x6 BR5 HS5 HE5 HP5 HM5 K5 H5 HO1 HR2 HR HC HB B1 B2 BW HPS2 B5 hz5 hmk hl2 HD HPS HSI HSS
              have hwz6 : w.heap.size ≤ w6.heap.size := B6.out.size
              go_upto_if 130 with fail
              go_cut [31] (fun m wx => m = .int .i64 (modeOf esc amp) ∧ wx = w6)
              case first =>
                cases esc <;> cases amp <;> (go_wp2_with fail; go_meet; case rel => exact ⟨rfl, rfl⟩)
              case rest => as_aux_lemma =>
                obtain ⟨rfl, hww⟩ := hcut
                have hww := hww.symm
                subst hww
                have hmk := run_make_row' (P := Yba.prog) 23 9 (.string ⟨#[]⟩) 16 Yba.underlying23 info9 rfl .i64 .i64 ps.length (by omega) (by omega)
                go_wp2_with fail
                go_loopw [33] (fun i wx => ∃ (k : Nat), k ≤ ps.length ∧ i = .int .i64 k ∧ Hid (wx.rowIs w6.heap.size 9 ps.length (spRow1 k)) ∧ Hid (Below w6.heap.size w6 wx)) (fun i _ => ps.length - (intOf i).toNat)
                case atStart => exact ⟨0, Nat.zero_le _, rfl, (World.rowIs_made w6 _ ps.length 9).congr (fun i _ => by simp [spRow1]), (Below.refl _ w6).alloc (Nat.le_refl _) _⟩
                case round =>
                  obtain ⟨k, hk, rfl, HR, HB⟩ := hrel
                  by_cases hlt : k < ps.length
                  · have c2 := HR.out.cell hlt
                    have c3 := HR.out.frozen k
                    go_wp2_with fail
                    go_roundw
                    case rel => exact ⟨k + 1, by omega, by go_num, spRow1_set HR.out, HB.out.setCell (p := ⟨w6.heap.size, k, none⟩) (Nat.le_refl _) _⟩
                    case measure => simp [intOf]; omega
                  · obtain rfl : k = ps.length := by omega
                    clear hk
                    have HR0 : Hid (wr.rowIs w6.heap.size 9 ps.length (spRow2 sp 0)) := HR.out.congr (fun i hi => by simp [spRow1, spRow2, hi])
                    have HB0 : Hid (Below w6.heap.size w6 wr) := HB.out
                    clear HR HB
                    go_wp2_with fail
                    go_loopw [34] (fun i wx => ∃ (k : Nat), k ≤ ps.length ∧ k ≤ sp.length ∧ i = .int .i64 k ∧ Hid (wx.rowIs w6.heap.size 9 ps.length (spRow2 sp k)) ∧ Hid (Below w6.heap.size w6 wx)) (fun i _ => ps.length - (intOf i).toNat)
                    case atStart => exact ⟨0, Nat.zero_le _, Nat.zero_le _, rfl, HR0, HB0⟩
                    case round =>
                      clear HR0 HB0
                      obtain ⟨k, hk, hk2, rfl, HR, HB⟩ := hrel
                      have HF := HF6.out.kept HB.out
                      by_cases hlt : k < sp.length ∧ k < ps.length
                      · obtain ⟨l1, l2⟩ := hlt
                        have c2 := HR.out.cell l2
                        have c3 := HR.out.frozen k
                        rcases HF.s2 with hn | ⟨b, off, rfl, hb, hc⟩
                        · rw [hn] at l1; simp at l1
                        have c1 := hc k l1
                        clear hc HF
                        by_cases hem : sp[k].data.toList = []
                        · have hem' : sp[k].size = 0 := by rw [Lib.size_eq, hem]; rfl
                          go_wp2_with fail
                          go_roundw
                          case rel => exact ⟨k + 1, by omega, by omega, by go_num, spRow2_skip HR.out l1 hem, HB⟩
                          case measure => simp [intOf]; omega
                        · have hem' : 0 < sp[k].size := by rw [Lib.size_eq]; exact List.length_pos_iff.2 hem
                          go_wp2_with fail
                          go_roundw
                          case rel => exact ⟨k + 1, by omega, by omega, by go_num, spRow2_set HR.out l1 hem, HB.out.setCell (p := ⟨w6.heap.size, k, none⟩) (Nat.le_refl _) _⟩
                          case measure => simp [intOf]; omega
                      · have HR8 : Hid (wr.rowIs w6.heap.size 9 ps.length (fun j => .string (spcB sp j))) := spRow2_end HR.out (by omega)
                        have HB8 : Hid (Below w6.heap.size w6 wr) := HB.out
                        obtain ⟨L, hL⟩ : ∃ L, L = l ++ textOf esc amp so sc pt bf af sp ps := ⟨_, rfl⟩
                        rw [← hL] at HF
                        have HL : Hid (L = l ++ textOf esc amp so sc pt bf af sp ps) := hL
                        have HF8 : Hid (Fin6 wr got work og L l spa sa pa da sp ps dc _ esc amp) := HF
                        clear hL
                        clear HF HR HB
                        go_upto_region 37 with fail
                        go_cut [153] (fun s wx => s = .bool false ∧ wx = wr)
                        case first =>
                          by_cases l1 : k < sp.length
                          · have l2 : ¬ k < ps.length := fun h => hlt ⟨l1, h⟩
                            clear hlt
                            go_wp2_with fail
                            go_meet
                            case rel => exact ⟨by simp, rfl⟩
                          · clear hlt
                            go_wp2_with fail
                            go_meet
                            case rel => exact ⟨by simp, rfl⟩
                        case rest => as_aux_lemma =>
                          obtain ⟨rfl, hww⟩ := hcut
                          have hww := hww.symm
                          subst hww
                          clear hk hk2 hlt
                          have hz8 : w6.heap.size ≤ wr.heap.size := HB8.out.size
                          have hh := argsTo_len sp ps ps.length
                          go_wp2_with fail
                          refine (head_any esc amp _).mono ?_
                          rintro e w7 ⟨rfl, hw7⟩
                          have hw7 := hw7.symm
                          subst hw7
                          go_upto_if 174 with (at_builtin; refine app_dst _ rfl (.tmp 171) (.tmp 172) rfl wr.heap.size da dc l rfl rfl HF8.out.d1 (Nat.le_refl _) (by omega) ?_; intro v9 w9 h9 b9; have H9 : Hid (Byt w9 wr.heap.size v9 l) := h9; have B9 : Hid (Below wr.heap.size wr w9) := b9; clear h9 b9)
                          have hz9 : wr.heap.size ≤ w9.heap.size := B9.out.size
                          go_cut [36] (fun s wx => Hid (Byt wx wr.heap.size s (l ++ headL esc amp so)) ∧ Hid (Below wr.heap.size wr wx))
                          case first =>
                            have hs3 := headS_size esc amp
                            cases so
                            · go_wp2_with (at_builtin; refine app_str _ rfl (.tmp 198) (.tmp 199) rfl wr.heap.size _ _ _ rfl rfl H9.out hz9 (by omega) ?_; intro v10 w10 h10 b10; have H10 : Hid (Byt w10 wr.heap.size v10 _) := h10; have B10 : Hid (Below wr.heap.size wr w10) := B9.out.trans (b10.below hz9 H9.out.block); clear h10 b10)
                              go_meet
                              case rel => exact ⟨H10.out.cast (by cases esc <;> cases amp <;> simp [headS, headL, opS, tild, amS]), B10⟩
                            · cases esc
                              · cases amp
                                · go_wp2_with (first
                                    | (at_builtin; refine app_str _ rfl (.tmp 175) (.tmp 183) rfl wr.heap.size _ _ _ rfl rfl H9.out hz9 (by show l.length + 2 ≤ _; omega) ?_; intro v10 w10 h10 b10; have H10 : Hid (Byt w10 wr.heap.size v10 (l ++ [123, 123])) := h10.cast (congrArg (l ++ ·) (by decide)); have B10 : Hid (Below wr.heap.size wr w10) := B9.out.trans (b10.below hz9 H9.out.block); have hz10 : wr.heap.size ≤ w10.heap.size := B10.out.size; clear h10 b10)
                                    | (at_builtin; refine app_one _ rfl (.tmp 187) (.tmp 188) rfl wr.heap.size _ _ 123 123 rfl rfl rfl H10.out hz10 (by simp; omega) ?_; intro v11 w11 h11 b11; have H11 : Hid (Byt w11 wr.heap.size v11 (l ++ [123, 123] ++ [123])) := h11; have B11 : Hid (Below wr.heap.size wr w11) := B10.out.trans b11; have hz11 : wr.heap.size ≤ w11.heap.size := B11.out.size; clear h11 b11)
                                    | (at_builtin; refine app_one _ rfl (.tmp 190) (.tmp 191) rfl wr.heap.size _ _ 126 126 rfl rfl rfl H11.out hz11 (by simp; omega) ?_; intro v12 w12 h12 b12; have H12 : Hid (Byt w12 wr.heap.size v12 (l ++ [123, 123] ++ [123] ++ [126])) := h12; have B12 : Hid (Below wr.heap.size wr w12) := B11.out.trans b12; have hz12 : wr.heap.size ≤ w12.heap.size := B12.out.size; clear h12 b12))
                                  go_meet
                                  case rel => exact ⟨H12.out.cast (by simp [headL, opS, tild, amS]), B12⟩
                                · go_wp2_with (first
                                    | (at_builtin; refine app_str _ rfl (.tmp 175) (.tmp 183) rfl wr.heap.size _ _ _ rfl rfl H9.out hz9 (by show l.length + 2 ≤ _; omega) ?_; intro v10 w10 h10 b10; have H10 : Hid (Byt w10 wr.heap.size v10 (l ++ [123, 123])) := h10.cast (congrArg (l ++ ·) (by decide)); have B10 : Hid (Below wr.heap.size wr w10) := B9.out.trans (b10.below hz9 H9.out.block); have hz10 : wr.heap.size ≤ w10.heap.size := B10.out.size; clear h10 b10)
                                    | (at_builtin; refine app_one _ rfl (.tmp 190) (.tmp 191) rfl wr.heap.size _ _ 126 126 rfl rfl rfl H10.out hz10 (by simp; omega) ?_; intro v11 w11 h11 b11; have H11 : Hid (Byt w11 wr.heap.size v11 (l ++ [123, 123] ++ [126])) := h11; have B11 : Hid (Below wr.heap.size wr w11) := B10.out.trans b11; have hz11 : wr.heap.size ≤ w11.heap.size := B11.out.size; clear h11 b11)
                                    | (at_builtin; refine app_one _ rfl (.tmp 195) (.tmp 196) rfl wr.heap.size _ _ 38 38 rfl rfl rfl H11.out hz11 (by simp; omega) ?_; intro v12 w12 h12 b12; have H12 : Hid (Byt w12 wr.heap.size v12 (l ++ [123, 123] ++ [126] ++ [38])) := h12; have B12 : Hid (Below wr.heap.size wr w12) := B11.out.trans b12; have hz12 : wr.heap.size ≤ w12.heap.size := B12.out.size; clear h12 b12))
                                  go_meet
                                  case rel => exact ⟨H12.out.cast (by simp [headL, opS, tild, amS]), B12⟩
                              · cases amp
                                · go_wp2_with (first
                                    | (at_builtin; refine app_str _ rfl (.tmp 175) (.tmp 183) rfl wr.heap.size _ _ _ rfl rfl H9.out hz9 (by show l.length + 2 ≤ _; omega) ?_; intro v10 w10 h10 b10; have H10 : Hid (Byt w10 wr.heap.size v10 (l ++ [123, 123])) := h10.cast (congrArg (l ++ ·) (by decide)); have B10 : Hid (Below wr.heap.size wr w10) := B9.out.trans (b10.below hz9 H9.out.block); have hz10 : wr.heap.size ≤ w10.heap.size := B10.out.size; clear h10 b10)
                                    | (at_builtin; refine app_one _ rfl (.tmp 190) (.tmp 191) rfl wr.heap.size _ _ 126 126 rfl rfl rfl H10.out hz10 (by simp; omega) ?_; intro v11 w11 h11 b11; have H11 : Hid (Byt w11 wr.heap.size v11 (l ++ [123, 123] ++ [126])) := h11; have B11 : Hid (Below wr.heap.size wr w11) := B10.out.trans b11; have hz11 : wr.heap.size ≤ w11.heap.size := B11.out.size; clear h11 b11))
                                  go_meet
                                  case rel => exact ⟨H11.out.cast (by simp [headL, opS, tild, amS]), B11⟩
                                · go_wp2_with (first
                                    | (at_builtin; refine app_str _ rfl (.tmp 175) (.tmp 183) rfl wr.heap.size _ _ _ rfl rfl H9.out hz9 (by show l.length + 2 ≤ _; omega) ?_; intro v10 w10 h10 b10; have H10 : Hid (Byt w10 wr.heap.size v10 (l ++ [123, 123])) := h10.cast (congrArg (l ++ ·) (by decide)); have B10 : Hid (Below wr.heap.size wr w10) := B9.out.trans (b10.below hz9 H9.out.block); have hz10 : wr.heap.size ≤ w10.heap.size := B10.out.size; clear h10 b10)
                                    | (at_builtin; refine app_one _ rfl (.tmp 190) (.tmp 191) rfl wr.heap.size _ _ 126 126 rfl rfl rfl H10.out hz10 (by simp; omega) ?_; intro v11 w11 h11 b11; have H11 : Hid (Byt w11 wr.heap.size v11 (l ++ [123, 123] ++ [126])) := h11; have B11 : Hid (Below wr.heap.size wr w11) := B10.out.trans b11; have hz11 : wr.heap.size ≤ w11.heap.size := B11.out.size; clear h11 b11))
                                  go_meet
                                  case rel => exact ⟨H11.out.cast (by simp [headL, opS, tild, amS]), B11⟩
                          case rest => as_aux_lemma =>
                            obtain ⟨H10, B10⟩ := hcut
                            obtain ⟨wz, hwz'⟩ : ∃ wz, wz = wr := ⟨_, rfl⟩
                            subst hwz'
                            clear H9 B9 hz9
                            have hhl := headL_len esc amp so
                            have hz10 : wz.heap.size ≤ wc.heap.size := B10.out.size
                            go_wp2_with (first
                              | (at_builtin; refine app_str _ rfl (.tmp 201) (.tmp 202) rfl wz.heap.size _ _ _ rfl rfl H10.out hz10 (by simp only [List.length_append, ← Lib.size_eq]; omega) ?_; intro v11 w11 h11 b11; have H11 : Hid (Byt w11 wz.heap.size v11 (l ++ headL esc amp so ++ bf.data.toList)) := h11; have B11 : Hid (Below wz.heap.size wz w11) := B10.out.trans (b11.below hz10 H10.out.block); have hz11 : wz.heap.size ≤ w11.heap.size := B11.out.size; clear h11 b11)
                              | (at_builtin; refine app_str _ rfl (.tmp 204) (.tmp 205) rfl wz.heap.size _ _ _ rfl rfl H11.out hz11 (by simp only [List.length_append, ← Lib.size_eq]; omega) ?_; intro v12 w12 h12 b12; have H12 : Hid (Byt w12 wz.heap.size v12 (l ++ headL esc amp so ++ bf.data.toList ++ pt.data.toList)) := h12; have B12 : Hid (Below wz.heap.size wz w12) := B11.out.trans (b12.below hz11 H11.out.block); have hz12 : wz.heap.size ≤ w12.heap.size := B12.out.size; clear h12 b12))
                            go_loopw [36, 37] (fun d i wx => ∃ (k : Nat), k ≤ ps.length ∧ i = .int .i64 k ∧ Hid (Byt wx wz.heap.size d (l ++ headL esc amp so ++ bf.data.toList ++ pt.data.toList ++ argsTo sp ps k)) ∧ Hid (Below wz.heap.size wz wx)) (fun _ i _ => ps.length - (intOf i).toNat)
                            case atStart => exact ⟨0, Nat.zero_le _, rfl, H12.out.cast (by simp [argsTo]), B12⟩
                            case round =>
                              clear H10 B10 hz10 H11 B11 hz11 H12 B12 hz12
                              obtain ⟨k, hk, rfl, H13, B13⟩ := hrel
                              have hb6 : w6.heap.size < wz.heap.size := HR8.out.lt
                              have hz13 : wz.heap.size ≤ wr.heap.size := B13.out.size
                              by_cases hlt : k < ps.length
                              · have c1 : wr.cell? ⟨w6.heap.size, k, none⟩ = some (.string (spcB sp k)) := (B13.out.cell (p := ⟨w6.heap.size, k, none⟩) hb6).trans (HR8.out.cell hlt)
                                rcases HF8.out.p1 with hn | ⟨b, off, rfl, hb, hc⟩
                                · rw [hn] at hlt; simp at hlt
                                have HCP : Hid (∀ i (hi : i < ps.length), wz.cell? ⟨b, off + i, none⟩ = some (.string ps[i])) := hc
                                clear hc
                                have z1 := spcB_size sp k
                                have z2 := size_le_tot ps k hlt
                                have hal := argsTo_len sp ps k
                                go_wp2_with (first
                                  | (at_builtin; refine app_str _ rfl (.tmp 213) (.tmp 217) rfl wz.heap.size _ _ _ rfl rfl H13.out hz13 (by simp only [List.length_append, ← Lib.size_eq]; omega) ?_; intro v14 w14 h14 b14; have H14 : Hid (Byt w14 wz.heap.size v14 (l ++ headL esc amp so ++ bf.data.toList ++ pt.data.toList ++ argsTo sp ps k ++ (spcB sp k).data.toList)) := h14; have B14 : Hid (Below wz.heap.size wz w14) := B13.out.trans (b14.below hz13 H13.out.block); have hz14 : wz.heap.size ≤ w14.heap.size := B14.out.size; clear h14 b14; have c2 : w14.cell? ⟨b, off + k, none⟩ = some (.string ps[k]) := (B14.out.cell (p := ⟨b, off + k, none⟩) hb).trans (HCP.out k hlt))
                                  | (at_builtin; refine app_str _ rfl (.tmp 219) (.tmp 223) rfl wz.heap.size _ _ _ rfl rfl H14.out hz14 (by simp only [List.length_append, ← Lib.size_eq]; omega) ?_; intro v15 w15 h15 b15; have H15 : Hid (Byt w15 wz.heap.size v15 (l ++ headL esc amp so ++ bf.data.toList ++ pt.data.toList ++ argsTo sp ps k ++ (spcB sp k).data.toList ++ ps[k].data.toList)) := h15; have B15 : Hid (Below wz.heap.size wz w15) := B14.out.trans (b15.below hz14 H14.out.block); have hz15 : wz.heap.size ≤ w15.heap.size := B15.out.size; clear h15 b15))
                                go_roundw
                                case rel => exact ⟨k + 1, by omega, by go_num, H15.out.cast (argsTo_succ sp ps k hlt _ _ (spcB_spc sp k).symm), B15⟩
                                case measure => simp [intOf]; omega
                              · obtain rfl : k = ps.length := by omega
                                clear hk
                                have ht1 := tild_len sc
                                have ht2 := clS_size esc amp
                                go_upto_if 228 with (at_builtin; refine app_str _ rfl (.tmp 225) (.tmp 226) rfl wz.heap.size _ _ _ rfl rfl H13.out hz13 (by simp only [List.length_append, ← Lib.size_eq]; omega) ?_; intro v14 w14 h14 b14; have H14 : Hid (Byt w14 wz.heap.size v14 (l ++ headL esc amp so ++ bf.data.toList ++ pt.data.toList ++ argsTo sp ps ps.length ++ af.data.toList)) := h14; have B14 : Hid (Below wz.heap.size wz w14) := B13.out.trans (b14.below hz13 H13.out.block); have hz14 : wz.heap.size ≤ w14.heap.size := B14.out.size; clear h14 b14)
                                go_cut [36] (fun s wx => Hid (Byt wx wz.heap.size s (l ++ headL esc amp so ++ bf.data.toList ++ pt.data.toList ++ argsTo sp ps ps.length ++ af.data.toList ++ tild sc)) ∧ Hid (Below wz.heap.size wz wx))
                                case first =>
                                  cases sc
                                  · go_wp2_with fail
                                    go_meet
                                    case rel => exact ⟨H14.out.cast (by simp [tild]), B14⟩
                                  · go_wp2_with (at_builtin; refine app_one _ rfl (.tmp 229) (.tmp 230) rfl wz.heap.size _ _ 126 126 rfl rfl rfl H14.out hz14 (by simp only [List.length_append, ← Lib.size_eq]; omega) ?_; intro v15 w15 h15 b15; have H15 : Hid (Byt w15 wz.heap.size v15 (l ++ headL esc amp so ++ bf.data.toList ++ pt.data.toList ++ argsTo sp ps ps.length ++ af.data.toList ++ [126])) := h15; have B15 : Hid (Below wz.heap.size wz w15) := B14.out.trans b15; have hz15 : wz.heap.size ≤ w15.heap.size := B15.out.size; clear h15 b15)
                                    go_meet
                                    case rel => exact ⟨H15.out.cast (by simp [tild]), B15⟩
                                case rest => as_aux_lemma =>
                                  obtain ⟨H16, B16⟩ := hcut
                                  clear H14 B14 hz14 H13 B13 hz13
                                  have hz16 : wz.heap.size ≤ wc.heap.size := B16.out.size
                                  have hLeq : l ++ headL esc amp so ++ bf.data.toList ++ pt.data.toList ++ argsTo sp ps ps.length ++ af.data.toList ++ tild sc ++ (clS esc amp).data.toList = L := by rw [HL.out]; simp [textOf, headL]
                                  have hLlen : L.length ≤ 5000000 := by rw [← hLeq]; simp only [List.length_append, ← Lib.size_eq]; omega
                                  have HLQ : Hid (l ++ headL esc amp so ++ bf.data.toList ++ pt.data.toList ++ argsTo sp ps ps.length ++ af.data.toList ++ tild sc ++ (clS esc amp).data.toList = L) := hLeq
                                  clear hLeq
                                  go_wp2_with fail
                                  refine (end_any esc amp _).mono ?_
                                  rintro e w17 ⟨rfl, hw17⟩
                                  have hw17 := hw17.symm
                                  subst hw17
                                  go_wp2_with (at_builtin; refine app_str _ rfl (.tmp 232) (.tmp 234) rfl wz.heap.size _ _ _ rfl rfl H16.out hz16 (by simp only [List.length_append, ← Lib.size_eq]; omega) ?_; intro v18 w18 h18 b18; have H18 : Hid (Byt w18 wz.heap.size v18 L) := h18.cast HLQ.out; have B18 : Hid (Below wz.heap.size wz w18) := B16.out.trans (b18.below hz16 H16.out.block); have hz18 : wz.heap.size ≤ w18.heap.size := B18.out.size; clear h18 b18; obtain ⟨fa, fc, rfl, hrf⟩ := H18.out.rdb; have HRF : Hid (RdB w18 fa L) := hrf; clear hrf H18; obtain ⟨⟨ga, gc, rfl, r1⟩, ⟨wa, wcc, rfl, r2⟩, ⟨oa, oc, rfl, r3⟩, s1, s2, _, _, c2, c3⟩ := HF8.out.kept (B18.out.mono (Nat.le_refl _)); have R1 : Hid (RdB w18 ga L) := r1; have R2 : Hid (RdB w18 wa l) := r2; have R3 : Hid (RdB w18 oa l) := r3; have S1 : Hid (RdS w18 spa sp) := s1; have S2 : Hid (RdS w18 sa sp) := s2; clear r1 r2 r3 s1 s2)
                                  refine (equalB_any ga fa gc fc L _ (by omega) R1.out HRF.out).mono ?_
                                  rintro e w19 ⟨rfl, n1, rfl⟩
                                  go_wp2_with fail
                                  refine (equalB_any wa oa wcc oc l _ (by omega) (R2.out.kept (bdrewN (Below.refl _ _) _) (Nat.le_refl _)) (R3.out.kept (bdrewN (Below.refl _ _) _) (Nat.le_refl _))).mono ?_
                                  rintro e w20 ⟨rfl, n2, rfl⟩
                                  go_wp2_with fail
                                  refine (equalS_any spa sa _ _ sp _ (by omega) (S1.out.kept (bdrewN (Below.refl _ _) _) (Nat.le_refl _)) (S2.out.kept (bdrewN (Below.refl _ _) _) (Nat.le_refl _))).mono ?_
                                  rintro e w21 ⟨rfl, n3, rfl⟩
                                  go_wp2_with fail
                                  go_ret
                                  exact ⟨by simp, bdrewN ((B6.out.trans (HB8.out.mono hwz6)).trans (B18.out.mono (by omega))) _⟩
end Go.Proofs.Ybulkdvvq
