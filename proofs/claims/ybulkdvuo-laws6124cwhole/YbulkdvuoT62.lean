import Derived.Test.YbulkdvuoT75
namespace Go.Proofs.Ybulkdvuo
open Go.RowKit
set_option linter.unusedSimpArgs false
theorem Hp.raise {W : World} {S0 L0 L1 mb lb pt rf inb enb cap : Nat} {la2 : Option Addr} {AB GB RB : Nat → Nat} {lk : List In1} {C : List Value} (h : Hp W S0 L0 mb lb pt rf inb enb cap la2 AB GB RB lk C) (h1 : L0 ≤ L1) (h2 : L1 ≤ W.heap.size) : Hp W S0 L1 mb lb pt rf inb enb cap la2 AB GB RB lk C :=
  { h with row := fun h0 => by obtain ⟨e1, e2, e3, e4, e5, e6, e7⟩ := h.row h0; exact ⟨e1, e2, e3, e4, e5, e6, by omega⟩, pq := by have := h.pq; omega, pl := ⟨h.pl.1, h2⟩ }
/-- the law's own 'closed' -/
theorem closed_of {c : Pm} {now fr fi id : Int} {l : List Int} {es : Array MapEntry} {ck hb : Nat} {ids : List Tri} (h : Pu c now fr fi id l es ck hb ids) : c.closed = if 0 ≤ now - 2 * ((2 * c.r + 1) * c.P / 2) then (now - 2 * ((2 * c.r + 1) * c.P / 2)) / c.T else 0 := by
  rw [h.cl]
  unfold slotOf Rw
  generalize (2 * c.r + 1) * c.P / 2 = R
  rw [show now - (R + R) = now - 2 * R by omega]
  by_cases ht : 0 ≤ now - 2 * R
  · rw [if_neg (by omega), if_pos ht]; omega
  · rw [if_pos (by omega), if_neg ht]; omega
set_option maxRecDepth 40000 in
set_option maxHeartbeats 4000000 in
theorem t62 {la la2 : Option Addr} {lk : List In1} {lc S0 L0 mb hb g ob hib lb pt rf inb enb cap jb : Nat} {c : Pm} {now fr fi id jJ : Int} {jOn jHeld : Bool} {l : List Int} {es : Array MapEntry} {ck : Nat} {ids : List Tri} {C : List Value} {AB GB RB : Nat → Nat} {w wq : World} {u0 u1 u2 u3 u7 u8 u11 u24 u25 u26 u27 u31 u35 u36 u38 u39 u40 u45 u46 u47 u48 u49 u50 u51 u78 u79 u80 u81 u82 u83 u84 u85 u86 u87 u88 u89 u90 u91 u92 u93 u94 u95 u96 u97 u98 u99 u100 u101 u102 u103 u104 u105 u106 u107 u108 u109 u110 u111 u112 u113 u114 u115 u116 u117 u118 u119 u120 u121 u122 u123 u124 u125 u126 u127 u128 u129 u130 u131 u132 u133 u134 u135 u136 u137 u138 u139 u140 u141 u142 u143 u144 u145 u146 u147 u148 u149 u150 u151 u152 u153 u154 u155 u156 u157 u158 u159 u160 u161 u162 u163 u164 u165 u166 u167 u168 u169 u170 u171 u172 u173 u174 u175 u176 u177 u178 u179 u180 u181 u182 u183 u184 u185 u186 u187 u188 u189 u190 u191 u192 u193 u194 u195 u196 u197 u198 u199 u200 u201 u202 u203 u204 u205 u206 u207 u208 u209 u210 u211 u212 u213 u214 u215 u216 u217 u218 u219 u220 u221 u222 u223 u224 u225 u226 u227 u228 u229 u230 u231 u232 u233 u234 u235 u236 u237 u238 u239 u240 u241 u242 u243 u244 u245 u246 u247 u248 u249 u250 u251 u252 u253 u254 u255 u256 u257 u258 u259 u260 u261 u262 u263 u264 u265 u266 u267 u268 u269 u270 u271 u272 u273 u274 u275 u276 u277 u278 u279 u280 u281 u282 u283 u284 u285 u286 u287 u288 u289 u290 u291 u292 u293 u294 u295 u296 u297 u298 u299 u300 u301 u302 u303 u304 u305 u306 : Value}
    (b1 : lk.length ≤ 4096) (hL : RdL w la lk) (hok : ∀ x ∈ lk, x.ok) (hl : ∀ x ∈ lk, x.refs.length ≤ 4096) (hB : Below w.heap.size w wq) (hmb : w.heap.size ≤ mb) (c7 : -128 ≤ fi ∧ fi ≤ 127) (c8 : -32768 ≤ fr ∧ fr ≤ 32767) (c10 : -32768 ≤ jJ ∧ jJ ≤ 32767) (hca : c.after = aftOf jOn jHeld jJ)
    (j0 : wq.cell? ⟨jb, 0, none⟩ = some (.bool jOn)) (j1 : wq.cell? ⟨jb, 1, none⟩ = some (.bool jHeld)) (j3 : wq.cell? ⟨jb, 3, none⟩ = some (.int .i16 jJ))
    (hE : Ev wq S0 mb hb g ob hib c now fr fi id l es ck ids) (hU : Pu c now fr fi id l es ck hb ids) (hH : Hp wq S0 L0 mb lb pt rf inb enb cap la2 AB GB RB lk C) (hN : En wq enb lk.length ((lk.map ackOf).map Ack1.nl)) :
    Code.wp Yba.prog (cdOf 25 Yba.f3.body) (bodyPost Yba.prog Yba.f3 fun e w' => e = .returned (.bool true) ∧ Below w.heap.size w w') { tmps := #[u0, u1, u2, u3, .int .i32 now, .int .i64 c.until_, .slice la lk.length lc, u7, u8, .int .i8 fi, .int .i16 fr, u11, undef, undef, undef, undef, undef, undef, undef, undef, undef, undef, undef, .pointer (some ⟨jb, 0, none⟩), u24, u25, u26, u27, .int .i64 c.T, .int .i64 c.P, .int .i64 c.r, u31, .int .i64 id, .pointer (some ⟨mb, 0, none⟩), .slice (some ⟨hib, 0, none⟩) ids.length ids.length, u35, u36, .slice (some ⟨ob, 0, none⟩) l.length l.length, u38, u39, u40, .slice (some ⟨pt, 0, none⟩) lk.length lk.length, .slice (some ⟨rf, 0, none⟩) lk.length lk.length, .slice (some ⟨inb, 0, none⟩) lk.length lk.length, .slice (some ⟨enb, 0, none⟩) lk.length lk.length, u45, u46, u47, u48, u49, u50, u51, undef, undef, undef, undef, undef, undef, undef, undef, undef, undef, undef, undef, undef, undef, undef, undef, undef, undef, undef, undef, undef, undef, undef, undef, undef, undef, u78, u79, u80, u81, u82, u83, u84, u85, u86, u87, u88, u89, u90, u91, u92, u93, u94, u95, u96, u97, u98, u99, u100, u101, u102, u103, u104, u105, u106, u107, u108, u109, u110, u111, u112, u113, u114, u115, u116, u117, u118, u119, u120, u121, u122, u123, u124, u125, u126, u127, u128, u129, u130, u131, u132, u133, u134, u135, u136, u137, u138, u139, u140, u141, u142, u143, u144, u145, u146, u147, u148, u149, u150, u151, u152, u153, u154, u155, u156, u157, u158, u159, u160, u161, u162, u163, u164, u165, u166, u167, u168, u169, u170, u171, u172, u173, u174, u175, u176, u177, u178, u179, u180, u181, u182, u183, u184, u185, u186, u187, u188, u189, u190, u191, u192, u193, u194, u195, u196, u197, u198, u199, u200, u201, u202, u203, u204, u205, u206, u207, u208, u209, u210, u211, u212, u213, u214, u215, u216, u217, u218, u219, u220, u221, u222, u223, u224, u225, u226, u227, u228, u229, u230, u231, u232, u233, u234, u235, u236, u237, u238, u239, u240, u241, u242, u243, u244, u245, u246, u247, u248, u249, u250, u251, u252, u253, u254, u255, u256, u257, u258, u259, u260, u261, u262, u263, u264, u265, u266, u267, u268, u269, u270, u271, u272, u273, u274, u275, u276, u277, u278, u279, u280, u281, u282, u283, u284, u285, u286, u287, u288, u289, u290, u291, u292, u293, u294, u295, u296, u297, u298, u299, u300, u301, u302, u303, u304, u305, u306, undef, undef, undef, undef, undef, undef, undef, undef, undef, undef, undef, undef, undef, undef, undef, undef, undef, undef, undef, undef, undef, undef, undef, undef, undef, undef, undef, undef, undef, undef, undef, undef, undef, undef, undef, undef, undef, undef, undef, undef, undef, undef, undef, undef, undef, undef, undef, undef, undef, undef, undef, undef, undef, undef, undef, undef, undef, undef, undef, undef, undef, undef, undef, undef, undef, undef, undef, undef, undef, undef, undef, undef, undef, undef, undef, undef, undef, undef, undef, undef, undef, undef, undef, undef, undef, undef, undef, undef, undef, undef, undef, undef, undef, undef, undef, undef, undef, undef, undef, undef, undef, undef, undef, undef, undef, undef, undef, undef, undef, undef, undef, undef, undef, undef, undef, undef, undef, undef, undef, undef, undef, undef, undef, undef, undef, undef, undef, undef, undef, undef, undef, undef, undef, undef, undef, undef, undef, undef, undef, undef, undef, undef, undef, undef, undef, undef, undef, undef, undef, undef, undef, undef, undef, undef, undef, undef, undef, undef, undef, undef, undef, undef, undef, undef, undef, undef, undef, undef, undef, undef, undef, undef, undef, undef, undef, undef, undef, undef, undef, undef, undef, undef, undef, undef, undef, undef, undef, undef, undef, undef, undef, undef, undef, undef, undef, undef, undef, undef, undef, undef, undef, undef, undef, undef, undef, undef, undef, undef, undef, undef, undef, undef, undef, undef, undef, undef, undef, undef, undef, undef, undef, undef, undef, undef, undef, undef, undef, undef, undef, undef, undef, undef, undef, undef, undef, undef, undef, undef, undef, undef, undef, undef, undef, undef, undef, undef, undef, undef, undef, undef, undef, undef, undef, undef, undef, undef, undef, undef, undef, undef, undef, undef, undef, undef, undef, undef, undef, undef, undef, undef, undef, undef, undef, undef, undef, undef, undef, undef, undef, undef, undef, undef, undef, undef, undef, undef, undef, undef, undef, undef, undef, undef, undef, undef, undef, undef, undef, undef, undef, undef, undef, undef, undef, undef, undef, undef, undef, undef, undef, undef, undef, undef, undef, undef, undef, undef, undef, undef, undef, undef, undef, undef, undef, undef, undef, undef, undef, undef, undef, undef, undef], defers := [] } wq := by
  have HL : Hid (RdL w la lk) := hL
  have HO : Hid (∀ x ∈ lk, x.ok) := hok
  have HLL : Hid (∀ x ∈ lk, x.refs.length ≤ 4096) := hl
  have HB : Hid (Below w.heap.size w wq) := hB
  have HE : Hid (Ev wq S0 mb hb g ob hib c now fr fi id l es ck ids) := hE
  have HU : Hid (Pu c now fr fi id l es ck hb ids) := hU
  have HH : Hid (Hp wq S0 L0 mb lb pt rf inb enb cap la2 AB GB RB lk C) := hH
  have HN : Hid (En wq enb lk.length ((lk.map ackOf).map Ack1.nl)) := hN
  have HCL : Hid (c.closed = if 0 ≤ now - 2 * ((2 * c.r + 1) * c.P / 2) then (now - 2 * ((2 * c.r + 1) * c.P / 2)) / c.T else 0) := closed_of hU
  have HCA : Hid (c.after = aftOf jOn jHeld jJ) := hca
  have hSq : S0 ≤ wq.heap.size := hE.pl.2.2.2
  have hLq : L0 ≤ wq.heap.size := hH.pl.2
  have heL : enb < L0 := by have := hH.pq; omega
  obtain ⟨R1, R2⟩ := rw_bd hU.hr hU.hP
  obtain ⟨r1, r2⟩ := hU.hr
  obtain ⟨p1, p2⟩ := hU.hP
  obtain ⟨T1, T2⟩ := hU.hT
  obtain ⟨n1, n2⟩ := hU.hn
  obtain ⟨jl1, jl2⟩ := c10
  have hT0 : (c.T == 0) = false := beq_eq_false_iff_ne.2 (by omega)
  clear hL hok hl hB hE hU hH hN hca
  conv => arg 2; whnf
  go_upto_if 319 with fail
  go_cut [52, 53] from 320 to 322 (fun rv v wx => rv = .int .i64 (Rw c.r c.P) ∧ v = .int .i64 c.closed ∧ wx = wq)
  case first =>
    by_cases ht : 0 ≤ now - 2 * ((2 * c.r + 1) * c.P / 2)
    · have d0 : 0 ≤ (now - 2 * ((2 * c.r + 1) * c.P / 2)) / c.T := Int.ediv_nonneg ht (by omega)
      have d1 : (now - 2 * ((2 * c.r + 1) * c.P / 2)) / c.T ≤ now - 2 * ((2 * c.r + 1) * c.P / 2) := Int.ediv_le_self _ ht
      go_wp2_with fail
      go_meet
      case rel => exact ⟨rfl, by rw [HCL.out, if_pos ht], rfl⟩
    · have HT : Hid (¬ (0 ≤ now - 2 * ((2 * c.r + 1) * c.P / 2))) := ht
      go_wp2_with fail
      go_meet
      case rel => exact ⟨rfl, by rw [HCL.out, if_neg (Int.not_le.2 HT.out)], rfl⟩
  case rest =>
    obtain ⟨rfl, rfl, hw⟩ := hcut
    subst hw
    go_upto_if 324 with fail
    go_cut [55] from 325 to 329 (fun v wx => v = .int .i64 c.after ∧ wx = wc)
    case first =>
      cases jOn with
      | true =>
        cases jHeld with
        | true =>
          go_wp2_with fail
          go_meet
          case rel => exact ⟨by rw [HCA.out]; rfl, rfl⟩
        | false =>
          go_wp2_with fail
          go_meet
          case rel => exact ⟨by rw [HCA.out]; rfl, rfl⟩
      | false =>
        go_wp2_with fail
        go_meet
        case rel => exact ⟨by rw [HCA.out]; rfl, rfl⟩
    case rest =>
      obtain ⟨rfl, hw⟩ := hcut
      subst hw
      generalize hY : wc = wY at *
      clear hY
      clear j0 j1 j3
      go_upto_region 74 with fail
      go_cut [58] from 58 to 58 (fun v wx => v = .slice none 0 0 ∧ wx = (wY.alloc (.cells preCells.toArray 107)).alloc (.cells preCells.toArray 107))
      case first =>
        go_wp2_with fail
        go_meet
        case rel => exact ⟨rfl, rfl⟩
      case rest =>
        obtain ⟨rfl, rfl⟩ := hcut
        rename_i aK
        refine aK _ _ ?_
        have hBa : Below wY.heap.size wY ((wY.alloc (.cells preCells.toArray 107)).alloc (.cells preCells.toArray 107)) := ((Below.refl _ _).alloc (Nat.le_refl _) _).alloc (by simp) _
        have hsz : ((wY.alloc (.cells preCells.toArray 107)).alloc (.cells preCells.toArray 107)).heap.size = wY.heap.size + 2 := by simp
        have hb0 : ((wY.alloc (.cells preCells.toArray 107)).alloc (.cells preCells.toArray 107)).heap[wY.heap.size]? = some (.cells preCells.toArray 107) := alloc_bef (heap_alloc_new wY _)
        have hb1 : ((wY.alloc (.cells preCells.toArray 107)).alloc (.cells preCells.toArray 107)).heap[wY.heap.size + 1]? = some (.cells preCells.toArray 107) := alloc_at (by simp)
        generalize (wY.alloc (.cells preCells.toArray 107)).alloc (.cells preCells.toArray 107) = wZ at *
        refine t75 (L0 := wY.heap.size + 1) b1 HL.out HO.out HLL.out (HB.out.trans (hBa.mono HB.out.size)) hmb c7 c8 (HE.out.below (hBa.mono hSq)) HU.out ((HH.out.keep (fun b h1 _ => hBa.block b (by omega)) hBa.size).raise (by omega) (by omega)) (HN.out.below hBa (by omega)) ?_ ?_ ⟨by omega, by omega⟩
        · exact ⟨⟨rfl, Or.inr ⟨wY.heap.size + 1, 1, preCells.toArray, rfl, Nat.le_refl _, hb1, Nat.le_refl _, by simp [maxLen], rfl, rfl⟩⟩, World.ownsRow_nil _ _ _ _, by simp, by simp, by simp [Value.ownBlock], by simp⟩
        · intro j v hj
          rw [Nat.zero_add, cell_of_row _ _ j _ _ _ hb0]; simpa using hj
end Go.Proofs.Ybulkdvuo
