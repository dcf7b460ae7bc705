import Derived.Test.YbulkdvuoT42
namespace Go.Proofs.Ybulkdvuo
open Go.RowKit
set_option linter.unusedSimpArgs false
theorem info54 : ∃ i, Yba.prog.info? 54 = some i ∧ i.zero = some (.slice none 0 0) ∧ i.size = 1 ∧ i.bytes = 24 := by
  have h : (Yba.prog.info? 54).map (fun i => (i.zero, i.size, i.bytes)) = some (some (.slice none 0 0), 1, 24) := by kernel_rfl
  cases hi : Yba.prog.info? 54 with
  | none => rw [hi] at h; cases h
  | some i =>
    rw [hi] at h
    simp only [Option.map_some, Option.some.injEq, Prod.mk.injEq] at h
    exact ⟨i, rfl, h.1, h.2.1, h.2.2⟩
theorem hp0_nil {W : World} {S0 pt rf inb enb n : Nat} {AB GB RB : Nat → Nat} (tp : W.there pt 0 n) (tr : W.there rf 0 n) (ti : W.there inb 0 n) (te : W.there enb 0 n) (pq : S0 ≤ pt ∧ pt < rf ∧ rf < inb ∧ inb < enb ∧ enb < W.heap.size) : Hp0 W S0 pt rf inb enb n AB GB RB [] :=
  ⟨tp, tr, ti, te, fun j hj => by simp at hj, fun j x hj => by simp at hj, fun j x hj => by simp at hj, fun j x hj => by simp at hj, fun j x hj => by simp at hj, fun j x hj => by simp at hj, fun j x hj => by simp at hj, fun j hj => by simp at hj, fun j x hj => by simp at hj, fun j x hj => by simp at hj, pq,
    fun j hj => by simp at hj, fun j hj => by simp at hj, fun j hj => by simp at hj, fun j k hj => by simp at hj, fun j k hj => by simp at hj, fun j k hj => by simp at hj⟩
set_option maxRecDepth 40000 in
set_option maxHeartbeats 4000000 in
theorem t38 {la : Option Addr} {lk : List In1} {lc mb hb g ob hib jb : Nat} {c : Pm} {now fr fi id jJ : Int} {jOn jHeld : Bool} {l : List Int} {es : Array MapEntry} {ck : Nat} {ids : List Tri} {w wq : World} {u0 u1 u2 u3 u7 u8 u11 u24 u25 u26 u27 u31 u35 u36 u38 u39 u40 u78 u79 u80 u81 u82 u83 u84 u85 u86 u87 u88 u89 u90 u91 u92 u93 u94 u95 u96 u97 u98 u99 u100 u101 u102 u103 u104 u105 u106 u107 u108 u109 u110 u111 u112 u113 u114 u115 u116 u117 u118 u119 u120 u121 u122 u123 u124 u125 u126 u127 u128 u129 u130 u131 u132 u133 u134 u135 u136 u137 u138 u139 u140 u141 u142 u143 u144 u145 u146 u147 u148 u149 u150 u151 u152 u153 u154 u155 u156 u157 u158 u159 u160 u161 u162 u163 u164 u165 u166 u167 u168 u169 u170 u171 u172 u173 u174 u175 u176 u177 u178 u179 u180 u181 u182 u183 u184 u185 u186 u187 u188 u189 u190 u191 u192 u193 u194 u195 u196 u197 u198 u199 u200 u201 u202 u203 u204 u205 u206 u207 u208 u209 u210 u211 u212 u213 u214 u215 u216 u217 u218 u219 u220 : Value}
    (b1 : lk.length ≤ 4096) (hL : RdL w la lk) (hok : ∀ x ∈ lk, x.ok) (hl : ∀ x ∈ lk, x.refs.length ≤ 4096) (hLr : ∀ x ∈ lk, Rd8 w x.ra x.refs) (hB : Below w.heap.size w wq) (hmb : w.heap.size ≤ mb) (c7 : -128 ≤ fi ∧ fi ≤ 127) (c8 : -32768 ≤ fr ∧ fr ≤ 32767) (c10 : -32768 ≤ jJ ∧ jJ ≤ 32767) (hca : c.after = aftOf jOn jHeld jJ)
    (hj : wq.cell? ⟨jb, 0, none⟩ = some (.bool jOn) ∧ wq.cell? ⟨jb, 1, none⟩ = some (.bool jHeld) ∧ wq.cell? ⟨jb, 3, none⟩ = some (.int .i16 jJ)) (hjm : jb ≠ mb)
    (hE : EvIf wq wq.heap.size mb hb g ob hib c now fr fi id l es ck ids) (hU : Pu c now fr fi id l es ck hb ids) (m42 : wq.cell? ⟨mb, 42, none⟩ = some (.slice none 0 0)) (f42 : wq.frozen? ⟨mb, 42, none⟩ = false) :
    Code.wp Yba.prog (cdOf 19 Yba.f3.body) (bodyPost Yba.prog Yba.f3 fun e w' => e = .returned (.bool true) ∧ Below w.heap.size w w') { tmps := #[u0, u1, u2, u3, .int .i32 now, .int .i64 c.until_, .slice la lk.length lc, u7, u8, .int .i8 fi, .int .i16 fr, u11, undef, undef, undef, undef, undef, undef, undef, undef, undef, undef, undef, .pointer (some ⟨jb, 0, none⟩), u24, u25, u26, u27, .int .i64 c.T, .int .i64 c.P, .int .i64 c.r, u31, .int .i64 id, .pointer (some ⟨mb, 0, none⟩), .slice (some ⟨hib, 0, none⟩) ids.length ids.length, u35, u36, .slice (some ⟨ob, 0, none⟩) l.length l.length, u38, u39, u40, undef, undef, undef, undef, undef, undef, undef, undef, undef, undef, undef, undef, undef, undef, undef, undef, undef, undef, undef, undef, undef, undef, undef, undef, undef, undef, undef, undef, undef, undef, undef, undef, undef, undef, undef, undef, undef, u78, u79, u80, u81, u82, u83, u84, u85, u86, u87, u88, u89, u90, u91, u92, u93, u94, u95, u96, u97, u98, u99, u100, u101, u102, u103, u104, u105, u106, u107, u108, u109, u110, u111, u112, u113, u114, u115, u116, u117, u118, u119, u120, u121, u122, u123, u124, u125, u126, u127, u128, u129, u130, u131, u132, u133, u134, u135, u136, u137, u138, u139, u140, u141, u142, u143, u144, u145, u146, u147, u148, u149, u150, u151, u152, u153, u154, u155, u156, u157, u158, u159, u160, u161, u162, u163, u164, u165, u166, u167, u168, u169, u170, u171, u172, u173, u174, u175, u176, u177, u178, u179, u180, u181, u182, u183, u184, u185, u186, u187, u188, u189, u190, u191, u192, u193, u194, u195, u196, u197, u198, u199, u200, u201, u202, u203, u204, u205, u206, u207, u208, u209, u210, u211, u212, u213, u214, u215, u216, u217, u218, u219, u220, undef, undef, undef, undef, undef, undef, undef, undef, undef, undef, undef, undef, undef, undef, undef, undef, undef, undef, undef, undef, undef, undef, undef, undef, undef, undef, undef, undef, undef, undef, undef, undef, undef, undef, undef, undef, undef, undef, undef, undef, undef, undef, undef, undef, undef, undef, undef, undef, undef, undef, undef, undef, undef, undef, undef, undef, undef, undef, undef, undef, undef, undef, undef, undef, undef, undef, undef, undef, undef, undef, undef, undef, undef, undef, undef, undef, undef, undef, undef, undef, undef, undef, undef, undef, undef, undef, undef, undef, undef, undef, undef, undef, undef, undef, undef, undef, undef, undef, undef, undef, undef, undef, undef, undef, undef, undef, undef, undef, undef, undef, undef, undef, undef, undef, undef, undef, undef, undef, undef, undef, undef, undef, undef, undef, undef, undef, undef, undef, undef, undef, undef, undef, undef, undef, undef, undef, undef, undef, undef, undef, undef, undef, undef, undef, undef, undef, undef, undef, undef, undef, undef, undef, undef, undef, undef, undef, undef, undef, undef, undef, undef, undef, undef, undef, undef, undef, undef, undef, undef, undef, undef, undef, undef, undef, undef, undef, undef, undef, undef, undef, undef, undef, undef, undef, undef, undef, undef, undef, undef, undef, undef, undef, undef, undef, undef, undef, undef, undef, undef, undef, undef, undef, undef, undef, undef, undef, undef, undef, undef, undef, undef, undef, undef, undef, undef, undef, undef, undef, undef, undef, undef, undef, undef, undef, undef, undef, undef, undef, undef, undef, undef, undef, undef, undef, undef, undef, undef, undef, undef, undef, undef, undef, undef, undef, undef, undef, undef, undef, undef, undef, undef, undef, undef, undef, undef, undef, undef, undef, undef, undef, undef, undef, undef, undef, undef, undef, undef, undef, undef, undef, undef, undef, undef, undef, undef, undef, undef, undef, undef, undef, undef, undef, undef, undef, undef, undef, undef, undef, undef, undef, undef, undef, undef, undef, undef, undef, undef, undef, undef, undef, undef, undef, undef, undef, undef, undef, undef, undef, undef, undef, undef, undef, undef, undef, undef, undef, undef, undef, undef, undef, undef, undef, undef, undef, undef, undef, undef, undef, undef, undef, undef, undef, undef, undef, undef, undef, undef, undef, undef, undef, undef, undef, undef, undef, undef, undef, undef, undef, undef, undef, undef, undef, undef, undef, undef, undef, undef, undef, undef, undef, undef, undef, undef, undef, undef, undef, undef, undef, undef, undef, undef, undef, undef, undef, undef, undef, undef, undef, undef, undef, undef, undef, undef, undef, undef, undef, undef, undef, undef, undef, undef, undef, undef, undef, undef, undef, undef, undef, undef, undef, undef, undef, undef, undef, undef, undef, undef, undef, undef, undef, undef, undef, undef, undef, undef, undef, undef], defers := [] } wq := by
  have HL : Hid (RdL w la lk) := hL
  have HO : Hid (∀ x ∈ lk, x.ok) := hok
  have HLL : Hid (∀ x ∈ lk, x.refs.length ≤ 4096) := hl
  have HLR : Hid (∀ x ∈ lk, Rd8 w x.ra x.refs) := hLr
  have HB : Hid (Below w.heap.size w wq) := hB
  have HE : Hid (EvIf wq wq.heap.size mb hb g ob hib c now fr fi id l es ck ids) := hE
  have HU : Hid (Pu c now fr fi id l es ck hb ids) := hU
  have HJ : Hid (wq.cell? ⟨jb, 0, none⟩ = some (.bool jOn) ∧ wq.cell? ⟨jb, 1, none⟩ = some (.bool jHeld) ∧ wq.cell? ⟨jb, 3, none⟩ = some (.int .i16 jJ)) := hj
  have HM : Hid (wq.cell? ⟨mb, 42, none⟩ = some (.slice none 0 0) ∧ wq.frozen? ⟨mb, 42, none⟩ = false) := ⟨m42, f42⟩
  have hmq : mb < wq.heap.size := World.block_lt_of_cell? wq _ m42
  have hjq : jb < wq.heap.size := World.block_lt_of_cell? wq _ hj.1
  have hgb : ∀ {A B : World}, A.grownBy B none → Below A.heap.size A B := fun hV => below_grown (Below.refl _ _) hV (Nat.le_refl _) (fun k hk => by cases hk)
  obtain ⟨tk, htk, hk0, hk1, hk2⟩ := info92
  obtain ⟨ts, hts, hs0, hs1, hs2⟩ := info54
  obtain ⟨ti, hti, hz0, hz1, hz2⟩ := info3
  clear hL hok hl hLr hB hE hU hj m42 f42
  conv => arg 2; whnf
  go_upto_region 39 with (refine wpList_make_full _ rfl _ _ 60 rfl wq.heap.size 92 tk _ 1 Yba.underlying60 htk hk0 hk1 _ _ _ _ lk.length rfl rfl rfl rfl (by rw [hk2]; omega) (by simp [maxLen]; omega) (Nat.le_refl _) ?_; intro w1 ho1 hg1)
  have B1 : Hid (Below wq.heap.size wq w1 ∧ wq.heap.size < w1.heap.size ∧ w1.there wq.heap.size 0 lk.length) := ⟨hgb hg1, (ho1.lt _ rfl).2, by have := own_there ho1; rwa [Nat.mul_one] at this⟩
  clear ho1 hg1
  go_upto_region 40 with (refine wpList_make_full _ rfl _ _ 102 rfl w1.heap.size 54 ts _ 1 Yba.underlying102 hts hs0 hs1 _ _ _ _ lk.length rfl rfl rfl rfl (by rw [hs2]; omega) (by simp [maxLen]; omega) (Nat.le_refl _) ?_; intro w2 ho2 hg2)
  have B2 : Hid (Below w1.heap.size w1 w2 ∧ w1.heap.size < w2.heap.size ∧ w2.there w1.heap.size 0 lk.length) := ⟨hgb hg2, (ho2.lt _ rfl).2, by have := own_there ho2; rwa [Nat.mul_one] at this⟩
  clear ho2 hg2
  go_upto_region 41 with (refine wpList_make_full _ rfl _ _ 48 rfl w2.heap.size 3 ti _ 1 Yba.underlying48 hti hz0 hz1 _ _ _ _ lk.length rfl rfl rfl rfl (by rw [hz2]; omega) (by simp [maxLen]; omega) (Nat.le_refl _) ?_; intro w3 ho3 hg3)
  have B3 : Hid (Below w2.heap.size w2 w3 ∧ w2.heap.size < w3.heap.size ∧ w3.there w2.heap.size 0 lk.length) := ⟨hgb hg3, (ho3.lt _ rfl).2, by have := own_there ho3; rwa [Nat.mul_one] at this⟩
  clear ho3 hg3
  go_cut [44] from 230 to 232 (fun v wx => v = .slice (some ⟨w3.heap.size, 0, none⟩) lk.length lk.length ∧ Hid (Below w3.heap.size w3 wx ∧ w3.heap.size < wx.heap.size ∧ wx.there w3.heap.size 0 lk.length))
  case first =>
    go_wp2_with (refine wpList_make_full _ rfl _ _ 48 rfl w3.heap.size 3 ti _ 1 Yba.underlying48 hti hz0 hz1 _ _ _ _ lk.length rfl rfl rfl rfl (by rw [hz2]; omega) (by simp [maxLen]; omega) (Nat.le_refl _) ?_; intro w4 ho4 hg4)
    go_meet
    case rel => exact ⟨rfl, hgb hg4, (ho4.lt _ rfl).2, by have := own_there ho4; rwa [Nat.mul_one] at this⟩
  case rest =>
    obtain ⟨rfl, B4⟩ := hcut
    rename_i aK
    obtain ⟨x1, x2, x3⟩ := B1.out
    obtain ⟨y1, y2, y3⟩ := B2.out
    obtain ⟨z1, z2, z3⟩ := B3.out
    obtain ⟨v1, v2, v3⟩ := B4.out
    have q2 : Below w1.heap.size w1 wc := y1.trans ((z1.trans (v1.mono (by omega))).mono (by omega))
    have q1 : Below wq.heap.size wq wc := x1.trans (q2.mono (by omega))
    have q3 : Below w2.heap.size w2 wc := z1.trans (v1.mono (by omega))
    have hcj : ∀ o, wc.cell? ⟨jb, o, none⟩ = wq.cell? ⟨jb, o, none⟩ := fun o => q1.cell (p := ⟨jb, o, none⟩) hjq
    refine aK _ _ (t42 (S0 := wq.heap.size) (AB0 := fun _ => 0) (GB0 := fun _ => 0) (RB0 := fun _ => 0) b1 HL.out HO.out HLL.out HLR.out (HB.out.trans (q1.mono HB.out.size)) hmb c7 c8 c10 hca ⟨(hcj 0).trans HJ.out.1, (hcj 1).trans HJ.out.2.1, (hcj 3).trans HJ.out.2.2⟩ hjm hjq (HE.out.below q1 hmq) HU.out (hp0_nil ?_ ?_ ?_ ?_ ⟨Nat.le_refl _, x2, y2, z2, v2⟩) ((q1.cell (p := ⟨mb, 42, none⟩) hmq).trans HM.out.1) ((q1.frozen (p := ⟨mb, 42, none⟩) hmq).trans HM.out.2) hmq q1.size)
    · exact there_below q2 x2 x3
    · exact there_below q3 y2 y3
    · exact there_below v1 z2 z3
    · exact v3
end Go.Proofs.Ybulkdvuo
