import Derived.Test.YbulkdvuoCd
import Derived.BigQuiet
namespace Go.Proofs.Ybulkdvuo
open Go.RowKit
set_option linter.unusedSimpArgs false
/-- a given ACK as the law makes it -/
def ackOf (x : In1) : Ack1 := ⟨x.J, x.refs.map m4, min x.nl.toNat x.refs.length⟩
/-- what the last loop reads -/
structure Ck (W : World) (pt rf enb : Nat) (AB GB RB : Nat → Nat) (lk : List In1) (N : List Nat) : Prop where
  ptr : ∀ j, j < lk.length → W.cell? ⟨pt, j, none⟩ = some (.pointer (some ⟨AB j, 0, none⟩))
  rfc : ∀ (j : Nat) (x : In1), lk[j]? = some x → W.cell? ⟨rf, j, none⟩ = some (.slice (some ⟨RB j, 0, none⟩) x.refs.length x.refs.length)
  enc : ∀ (j n : Nat), N[j]? = some n → W.cell? ⟨enb, j, none⟩ = some (.int .i64 n)
  a0 : ∀ (j : Nat) (x : In1), lk[j]? = some x → W.cell? ⟨AB j, 0, none⟩ = some (.int .i64 x.J)
  a1 : ∀ (j : Nat) (x : In1), lk[j]? = some x → W.cell? ⟨AB j, 1, none⟩ = some (.slice (some ⟨GB j, 0, none⟩) x.refs.length x.refs.length)
  a15 : ∀ (j n : Nat), N[j]? = some n → W.cell? ⟨AB j, 15, none⟩ = some (.int .i64 n)
  rr : ∀ (j : Nat) (x : In1), lk[j]? = some x → W.rangeAt (RB j) 0 (tcs (x.refs.map m4))
  gg : ∀ (j : Nat) (x : In1), lk[j]? = some x → W.rangeAt (GB j) 0 (tcs (x.refs.map m4))
  len : N.length = lk.length
theorem Ck.drewN {W : World} {pt rf enb : Nat} {AB GB RB : Nat → Nat} {lk : List In1} {N : List Nat} (h : Ck W pt rf enb AB GB RB lk N) (n : Nat) : Ck (W.drewN n) pt rf enb AB GB RB lk N := ⟨h.ptr, h.rfc, h.enc, h.a0, h.a1, h.a15, h.rr, h.gg, h.len⟩
theorem tcs_at {W : World} {b : Nat} {l : List Tri} {i : Nat} {t : Tri} (h : W.rangeAt b 0 (tcs l)) (ht : l[i]? = some t) : W.cell? ⟨b, i * 3, none⟩ = some (.int .i64 t.1) ∧ W.cell? ⟨b, i * 3 + 1, none⟩ = some (.int .i64 t.2.1) ∧ W.cell? ⟨b, i * 3 + 2, none⟩ = some (.int .i64 t.2.2) := by
  have := flatAt (f := tc) (n := 3) (fun _ _ => rfl) h ht
  rw [Nat.zero_add] at this
  exact three_at this
set_option maxRecDepth 40000 in
set_option maxHeartbeats 4000000 in
theorem t127 {la : Option Addr} {lk : List In1} {lc pt rf enb : Nat} {AB GB RB : Nat → Nat} {N : List Nat} {w wq : World} {u0 u1 u2 u3 u4 u5 u7 u8 u9 u10 u11 u23 u24 u25 u26 u27 u28 u29 u30 u31 u32 u33 u34 u35 u36 u37 u38 u39 u40 u43 u45 u46 u47 u48 u49 u50 u51 u52 u53 u54 u55 u56 u57 u58 u59 u60 u61 u62 u63 u64 u65 u66 u67 u68 u69 u70 u71 u72 u73 u74 u78 u79 u80 u81 u82 u83 u84 u85 u86 u87 u88 u89 u90 u91 u92 u93 u94 u95 u96 u97 u98 u99 u100 u101 u102 u103 u104 u105 u106 u107 u108 u109 u110 u111 u112 u113 u114 u115 u116 u117 u118 u119 u120 u121 u122 u123 u124 u125 u126 u127 u128 u129 u130 u131 u132 u133 u134 u135 u136 u137 u138 u139 u140 u141 u142 u143 u144 u145 u146 u147 u148 u149 u150 u151 u152 u153 u154 u155 u156 u157 u158 u159 u160 u161 u162 u163 u164 u165 u166 u167 u168 u169 u170 u171 u172 u173 u174 u175 u176 u177 u178 u179 u180 u181 u182 u183 u184 u185 u186 u187 u188 u189 u190 u191 u192 u193 u194 u195 u196 u197 u198 u199 u200 u201 u202 u203 u204 u205 u206 u207 u208 u209 u210 u211 u212 u213 u214 u215 u216 u217 u218 u219 u220 u221 u222 u223 u224 u225 u226 u227 u228 u229 u230 u231 u232 u233 u234 u235 u236 u237 u238 u239 u240 u241 u242 u243 u244 u245 u246 u247 u248 u249 u250 u251 u252 u253 u254 u255 u256 u257 u258 u259 u260 u261 u262 u263 u264 u265 u266 u267 u268 u269 u270 u271 u272 u273 u274 u275 u276 u277 u278 u279 u280 u281 u282 u283 u284 u285 u286 u287 u288 u289 u290 u291 u292 u293 u294 u295 u296 u297 u298 u299 u300 u301 u302 u303 u304 u305 u306 u307 u308 u309 u310 u311 u312 u313 u314 u315 u316 u317 u318 u319 u320 u321 u322 u323 u324 u325 u326 u327 u328 u329 u330 u331 u332 u333 u334 u335 u336 u337 u338 u339 u340 u341 u342 u343 u344 u345 u346 u347 u348 u349 u350 u351 u352 u353 u354 u355 u356 u357 u358 u359 u360 u361 u362 u363 u364 u365 u366 u367 u368 u369 u370 u371 u372 u373 u374 u375 u376 u377 u378 u379 u380 u381 u382 u383 u384 u385 u386 u387 u388 u389 u390 u391 u392 u393 u394 u395 u396 u397 u398 u399 u400 u401 u402 u403 u404 u405 u406 u407 u408 u409 u410 u411 u412 u413 u414 u415 u416 u417 u418 u419 u420 u421 u422 u423 u424 u425 u426 u427 u428 u429 u430 u431 u432 u433 u434 u435 u436 u437 u438 u439 u440 u441 u442 u443 u444 u445 u446 u447 u448 u449 u450 u451 u452 u453 u454 u455 u456 u457 u458 u459 u460 u461 u462 u463 u464 u465 u466 u467 u468 u469 u470 u471 u472 u473 u474 u475 u476 u477 u478 u479 u480 u481 u482 u483 u484 u485 u486 u487 u488 u489 u490 u491 u492 u493 u494 u495 u496 u497 u498 u499 u500 u501 u502 u503 u504 u505 u506 u507 u508 u509 u510 u511 u512 u513 u514 u515 u516 u517 u518 u519 u520 u521 u522 u523 u524 u525 u526 u527 u528 u529 u530 u531 u532 u533 u534 u535 u536 u537 u538 u539 u540 u541 u542 u543 u544 u545 u546 u547 u548 u549 u550 u551 u552 u553 u554 u555 u556 u557 u558 u559 u560 u561 u562 u563 u564 u565 : Value}
    (b1 : lk.length ≤ 4096) (hL : RdL w la lk) (hok : ∀ x ∈ lk, x.ok) (hB : Below w.heap.size w wq) (hC : Ck wq pt rf enb AB GB RB lk N) :
    Code.wp Yba.prog (cdOf 39 Yba.f3.body) (bodyPost Yba.prog Yba.f3 fun e w' => e = .returned (.bool true) ∧ Below w.heap.size w w') { tmps := #[u0, u1, u2, u3, u4, u5, .slice la lk.length lc, u7, u8, u9, u10, u11, undef, undef, undef, undef, undef, undef, undef, undef, undef, undef, undef, u23, u24, u25, u26, u27, u28, u29, u30, u31, u32, u33, u34, u35, u36, u37, u38, u39, u40, .slice (some ⟨pt, 0, none⟩) lk.length lk.length, .slice (some ⟨rf, 0, none⟩) lk.length lk.length, u43, .slice (some ⟨enb, 0, none⟩) lk.length lk.length, u45, u46, u47, u48, u49, u50, u51, u52, u53, u54, u55, u56, u57, u58, u59, u60, u61, u62, u63, u64, u65, u66, u67, u68, u69, u70, u71, u72, u73, u74, undef, undef, undef, u78, u79, u80, u81, u82, u83, u84, u85, u86, u87, u88, u89, u90, u91, u92, u93, u94, u95, u96, u97, u98, u99, u100, u101, u102, u103, u104, u105, u106, u107, u108, u109, u110, u111, u112, u113, u114, u115, u116, u117, u118, u119, u120, u121, u122, u123, u124, u125, u126, u127, u128, u129, u130, u131, u132, u133, u134, u135, u136, u137, u138, u139, u140, u141, u142, u143, u144, u145, u146, u147, u148, u149, u150, u151, u152, u153, u154, u155, u156, u157, u158, u159, u160, u161, u162, u163, u164, u165, u166, u167, u168, u169, u170, u171, u172, u173, u174, u175, u176, u177, u178, u179, u180, u181, u182, u183, u184, u185, u186, u187, u188, u189, u190, u191, u192, u193, u194, u195, u196, u197, u198, u199, u200, u201, u202, u203, u204, u205, u206, u207, u208, u209, u210, u211, u212, u213, u214, u215, u216, u217, u218, u219, u220, u221, u222, u223, u224, u225, u226, u227, u228, u229, u230, u231, u232, u233, u234, u235, u236, u237, u238, u239, u240, u241, u242, u243, u244, u245, u246, u247, u248, u249, u250, u251, u252, u253, u254, u255, u256, u257, u258, u259, u260, u261, u262, u263, u264, u265, u266, u267, u268, u269, u270, u271, u272, u273, u274, u275, u276, u277, u278, u279, u280, u281, u282, u283, u284, u285, u286, u287, u288, u289, u290, u291, u292, u293, u294, u295, u296, u297, u298, u299, u300, u301, u302, u303, u304, u305, u306, u307, u308, u309, u310, u311, u312, u313, u314, u315, u316, u317, u318, u319, u320, u321, u322, u323, u324, u325, u326, u327, u328, u329, u330, u331, u332, u333, u334, u335, u336, u337, u338, u339, u340, u341, u342, u343, u344, u345, u346, u347, u348, u349, u350, u351, u352, u353, u354, u355, u356, u357, u358, u359, u360, u361, u362, u363, u364, u365, u366, u367, u368, u369, u370, u371, u372, u373, u374, u375, u376, u377, u378, u379, u380, u381, u382, u383, u384, u385, u386, u387, u388, u389, u390, u391, u392, u393, u394, u395, u396, u397, u398, u399, u400, u401, u402, u403, u404, u405, u406, u407, u408, u409, u410, u411, u412, u413, u414, u415, u416, u417, u418, u419, u420, u421, u422, u423, u424, u425, u426, u427, u428, u429, u430, u431, u432, u433, u434, u435, u436, u437, u438, u439, u440, u441, u442, u443, u444, u445, u446, u447, u448, u449, u450, u451, u452, u453, u454, u455, u456, u457, u458, u459, u460, u461, u462, u463, u464, u465, u466, u467, u468, u469, u470, u471, u472, u473, u474, u475, u476, u477, u478, u479, u480, u481, u482, u483, u484, u485, u486, u487, u488, u489, u490, u491, u492, u493, u494, u495, u496, u497, u498, u499, u500, u501, u502, u503, u504, u505, u506, u507, u508, u509, u510, u511, u512, u513, u514, u515, u516, u517, u518, u519, u520, u521, u522, u523, u524, u525, u526, u527, u528, u529, u530, u531, u532, u533, u534, u535, u536, u537, u538, u539, u540, u541, u542, u543, u544, u545, u546, u547, u548, u549, u550, u551, u552, u553, u554, u555, u556, u557, u558, u559, u560, u561, u562, u563, u564, u565, undef, undef, undef, undef, undef, undef, undef, undef, undef, undef, undef, undef, undef, undef, undef, undef, undef, undef, undef, undef, undef, undef, undef, undef, undef, undef, undef, undef, undef, undef, undef, undef, undef, undef, undef, undef, undef, undef, undef, undef, undef, undef, undef, undef, undef, undef, undef, undef, undef, undef, undef, undef, undef, undef, undef, undef, undef, undef, undef, undef, undef, undef, undef, undef, undef, undef, undef, undef, undef, undef, undef, undef], defers := [] } wq := by
  have HL : Hid (RdL w la lk) := hL
  have HO : Hid (∀ x ∈ lk, x.ok) := hok
  have HB : Hid (Below w.heap.size w wq) := hB
  have HC : Hid (Ck wq pt rf enb AB GB RB lk N) := hC
  clear hL hok hB hC
  conv => arg 2; whnf
  go_wp2_with fail
  go_loopw [568] (fun iv wr => ∃ i : Nat, i ≤ lk.length ∧ iv = .int .i64 i ∧ Hid (Ck wr pt rf enb AB GB RB lk N) ∧ Hid (Below w.heap.size w wr)) (fun iv _ => lk.length - (intOf iv).toNat)
  case atStart => exact ⟨0, by omega, rfl, HC, HB⟩
  case round =>
    clear HC HB
    obtain ⟨i, hi, rfl, HC, HB⟩ := hrel
    by_cases hin : i < lk.length
    · obtain ⟨lb, lo, rfl, hlb, hlr⟩ := HL.out (by omega)
      obtain ⟨x, hx⟩ : ∃ x, lk[i]? = some x := ⟨_, List.getElem?_eq_getElem hin⟩
      obtain ⟨n, hn⟩ : ∃ n, N[i]? = some n := ⟨_, List.getElem?_eq_getElem (by rw [HC.out.len]; exact hin)⟩
      have hxo := HO.out x (List.mem_of_getElem? hx)
      obtain ⟨e0, e1, e2⟩ := three_at (rangeAt_below HB.out (by omega) (flatAt (f := In1.cells) (n := 3) (fun _ _ => rfl) hlr hx))
      have g0 := HC.out.ptr i hin
      have g1 := HC.out.rfc i x hx
      have g2 := HC.out.enc i n hn
      have g3 := HC.out.a0 i x hx
      have g4 := HC.out.a1 i x hx
      have g5 := HC.out.a15 i n hn
      have i0 : (0 : Int) ≤ (i : Int) := by omega
      have i1 : (i : Int) < (lk.length : Int) := by omega
      have hj := hxo.1
      have hrl := hxo.2.2.2
      clear hlr hxo e1 e2
      go_upto_region 131 with fail
      go_quiet (fail)
      go_wp2_with fail
      generalize hX : wr = wX at *
      clear hX
      go_loopw [617] (fun kv wr => ∃ k : Nat, k ≤ x.refs.length ∧ kv = .int .i64 k ∧ Hid (Ck wr pt rf enb AB GB RB lk N) ∧ Hid (Below w.heap.size w wr)) (fun kv _ => x.refs.length - (intOf kv).toNat)
      case atStart => exact ⟨0, by omega, rfl, HC.out.drewN _, bdrewN HB.out _⟩
      case round =>
        clear HC HB g0 g1 g2 g3 g4 g5 e0
        obtain ⟨k, hk, rfl, HC, HB⟩ := hrel
        by_cases hkn : k < x.refs.length
        · obtain ⟨t, ht⟩ : ∃ t, (x.refs.map m4)[k]? = some t := ⟨_, List.getElem?_eq_getElem (by simpa using hkn)⟩
          have g0 := HC.out.ptr i hin
          have g1 := HC.out.rfc i x hx
          have g4 := HC.out.a1 i x hx
          obtain ⟨r0, r1, r2⟩ := tcs_at (HC.out.rr i x hx) ht
          obtain ⟨q0, q1, q2⟩ := tcs_at (HC.out.gg i x hx) ht
          have k0 : (0 : Int) ≤ (k : Int) := by omega
          have k1 : (k : Int) < (x.refs.length : Int) := by omega
          go_upto_region 136 with fail
          go_quiet (fail)
          go_wp2_with fail
          go_roundw
          case rel => exact ⟨k + 1, by omega, by go_num, HC.out.drewN _, bdrewN HB.out _⟩
          case measure => simp [intOf]; omega
        · obtain rfl : k = x.refs.length := by omega
          go_wp2_with fail
          go_roundw
          case rel => exact ⟨i + 1, by omega, by go_num, HC, HB⟩
          case measure => simp [intOf]; omega
    · obtain rfl : i = lk.length := by omega
      go_wp2_with fail
      go_ret
      exact ⟨rfl, HB.out⟩
end Go.Proofs.Ybulkdvuo
