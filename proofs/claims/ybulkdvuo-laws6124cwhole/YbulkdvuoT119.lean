import Derived.Test.YbulkdvuoT127
import Derived.LaidEqlPtr
namespace Go.Proofs.Ybulkdvuo
open Go.RowKit
set_option linter.unusedSimpArgs false
theorem cell_mono {W W' : World} (h : Below W.heap.size W W') {p : Addr} {v : Value} (hc : W.cell? p = some v) : W'.cell? p = some v := (h.cell (World.block_lt_of_cell? W _ hc)).trans hc
theorem range_mono {W W' : World} (h : Below W.heap.size W W') {b o : Nat} {cs : List Value} (hr : W.rangeAt b o cs) : W'.rangeAt b o cs := fun j v hj => cell_mono h (hr j v hj)
theorem Ck.mono {W W' : World} {pt rf enb : Nat} {AB GB RB : Nat → Nat} {lk : List In1} {N : List Nat} (h : Ck W pt rf enb AB GB RB lk N) (hb : Below W.heap.size W W') : Ck W' pt rf enb AB GB RB lk N :=
  ⟨fun j hj => cell_mono hb (h.ptr j hj), fun j x hj => cell_mono hb (h.rfc j x hj), fun j n hj => cell_mono hb (h.enc j n hj), fun j x hj => cell_mono hb (h.a0 j x hj), fun j x hj => cell_mono hb (h.a1 j x hj), fun j n hj => cell_mono hb (h.a15 j n hj), fun j x hj => range_mono hb (h.rr j x hj), fun j x hj => range_mono hb (h.gg j x hj), h.len⟩
/-- the kept places, both sides -/
structure Ckk (W : World) (mb : Nat) (ka la2 : Option Addr) (K : List Nat) (cap : Nat) (AB : Nat → Nat) (n : Nat) : Prop where
  kr : 0 < K.length → ∃ b, ka = some ⟨b, 0, none⟩ ∧ ∀ i j : Nat, K[i]? = some j → W.cell? ⟨b, i, none⟩ = some (.int .i64 j)
  m42 : W.cell? ⟨mb, 42, none⟩ = some (.slice la2 K.length cap)
  lr : 0 < K.length → ∃ b, la2 = some ⟨b, 0, none⟩ ∧ ∀ i j : Nat, K[i]? = some j → W.cell? ⟨b, i, none⟩ = some (.pointer (some ⟨AB j, 0, none⟩))
  kl : ∀ j ∈ K, j < n
  kn : K.length ≤ n
theorem Ckk.mono {W W' : World} {mb cap n : Nat} {ka la2 : Option Addr} {K : List Nat} {AB : Nat → Nat} (h : Ckk W mb ka la2 K cap AB n) (hb : Below W.heap.size W W') : Ckk W' mb ka la2 K cap AB n :=
  ⟨fun h0 => by obtain ⟨b, e, hc⟩ := h.kr h0; exact ⟨b, e, fun i j hij => cell_mono hb (hc i j hij)⟩, cell_mono hb h.m42, fun h0 => by obtain ⟨b, e, hc⟩ := h.lr h0; exact ⟨b, e, fun i j hij => cell_mono hb (hc i j hij)⟩, h.kl, h.kn⟩
theorem Ckk.drewN {W : World} {mb cap n : Nat} {ka la2 : Option Addr} {K : List Nat} {AB : Nat → Nat} (h : Ckk W mb ka la2 K cap AB n) (m : Nat) : Ckk (W.drewN m) mb ka la2 K cap AB n := ⟨h.kr, h.m42, h.lr, h.kl, h.kn⟩
theorem neq_ptr (a : Addr) (w : World) : (binOp .neq 92 (.pointer (some a)) (.pointer (some a))).run Yba.prog w = .ok (.bool false) w := by
  obtain ⟨j, hte⟩ : ∃ j, Yba.prog.info? 101 = some j := Option.isSome_iff_exists.1 (by kernel_rfl)
  have h : ∀ d : Nat, (Op.equalIn (d + 1) 92 (.pointer (some a)) (.pointer (some a))).run Yba.prog w = .ok true w := fun d => by
    simp [Op.equalIn, run_underlying Yba.underlying92, sizeOf, typeInfo, hte, run_sameAddr_same]
  simp only [binOp]
  simp [Op.equal, Op.maxDepth, h 9999]
set_option maxRecDepth 40000 in
set_option maxHeartbeats 4000000 in
theorem t119 {la : Option Addr} {lk : List In1} {lc pt rf enb mb kc cap : Nat} {ka la2 : Option Addr} {K : List Nat} {AB GB RB : Nat → Nat} {N : List Nat} {w wq : World} {u0 u1 u2 u3 u4 u5 u7 u8 u9 u10 u11 u23 u24 u25 u26 u27 u28 u29 u30 u31 u32 u34 u35 u36 u37 u38 u39 u40 u43 u45 u46 u47 u48 u49 u50 u51 u52 u53 u54 u55 u56 u57 u59 u60 u61 u62 u63 u64 u65 u66 u67 u68 u69 u70 u71 u72 u78 u79 u80 u81 u82 u83 u84 u85 u86 u87 u88 u89 u90 u91 u92 u93 u94 u95 u96 u97 u98 u99 u100 u101 u102 u103 u104 u105 u106 u107 u108 u109 u110 u111 u112 u113 u114 u115 u116 u117 u118 u119 u120 u121 u122 u123 u124 u125 u126 u127 u128 u129 u130 u131 u132 u133 u134 u135 u136 u137 u138 u139 u140 u141 u142 u143 u144 u145 u146 u147 u148 u149 u150 u151 u152 u153 u154 u155 u156 u157 u158 u159 u160 u161 u162 u163 u164 u165 u166 u167 u168 u169 u170 u171 u172 u173 u174 u175 u176 u177 u178 u179 u180 u181 u182 u183 u184 u185 u186 u187 u188 u189 u190 u191 u192 u193 u194 u195 u196 u197 u198 u199 u200 u201 u202 u203 u204 u205 u206 u207 u208 u209 u210 u211 u212 u213 u214 u215 u216 u217 u218 u219 u220 u221 u222 u223 u224 u225 u226 u227 u228 u229 u230 u231 u232 u233 u234 u235 u236 u237 u238 u239 u240 u241 u242 u243 u244 u245 u246 u247 u248 u249 u250 u251 u252 u253 u254 u255 u256 u257 u258 u259 u260 u261 u262 u263 u264 u265 u266 u267 u268 u269 u270 u271 u272 u273 u274 u275 u276 u277 u278 u279 u280 u281 u282 u283 u284 u285 u286 u287 u288 u289 u290 u291 u292 u293 u294 u295 u296 u297 u298 u299 u300 u301 u302 u303 u304 u305 u306 u307 u308 u309 u310 u311 u312 u313 u314 u315 u316 u317 u318 u319 u320 u321 u322 u323 u324 u325 u326 u327 u328 u329 u330 u331 u332 u333 u334 u335 u336 u337 u338 u339 u340 u341 u342 u343 u344 u345 u346 u347 u348 u349 u350 u351 u352 u353 u354 u355 u356 u357 u358 u359 u360 u361 u362 u363 u364 u365 u366 u367 u368 u369 u370 u371 u372 u373 u374 u375 u376 u377 u378 u379 u380 u381 u382 u383 u384 u385 u386 u387 u388 u389 u390 u391 u392 u393 u394 u395 u396 u397 u398 u399 u400 u401 u402 u403 u404 u405 u406 u407 u408 u409 u410 u411 u412 u413 u414 u415 u416 u417 u418 u419 u420 u421 u422 u423 u424 u425 u426 u427 u428 u429 u430 u431 u432 u433 u434 u435 u436 u437 u438 u439 u440 u441 u442 u443 u444 u445 u446 u447 u448 u449 u450 u451 u452 u453 u454 u455 u456 u457 u458 u459 u460 u461 u462 u463 u464 u465 u466 u467 u468 u469 u470 u471 u472 u473 u474 u475 u476 u477 u478 u479 u480 u481 u482 u483 u484 u485 u486 u487 u488 u489 u490 u491 u492 u493 u494 u495 u496 u497 u498 u499 u500 u501 u502 u503 u504 u505 u506 u507 u508 u509 u510 u511 u512 u513 u514 u515 u516 u517 u518 u519 u520 u521 u522 u523 u524 u525 u526 u527 u528 u529 u530 u531 u532 u533 u534 u535 u536 u537 : Value}
    (b1 : lk.length ≤ 4096) (hL : RdL w la lk) (hok : ∀ x ∈ lk, x.ok) (hB : Below w.heap.size w wq) (hC : Ck wq pt rf enb AB GB RB lk N) (hK : Ckk wq mb ka la2 K cap AB lk.length) :
    Code.wp Yba.prog (cdOf 37 Yba.f3.body) (bodyPost Yba.prog Yba.f3 fun e w' => e = .returned (.bool true) ∧ Below w.heap.size w w') { tmps := #[u0, u1, u2, u3, u4, u5, .slice la lk.length lc, u7, u8, u9, u10, u11, undef, undef, undef, undef, undef, undef, undef, undef, undef, undef, undef, u23, u24, u25, u26, u27, u28, u29, u30, u31, u32, .pointer (some ⟨mb, 0, none⟩), u34, u35, u36, u37, u38, u39, u40, .slice (some ⟨pt, 0, none⟩) lk.length lk.length, .slice (some ⟨rf, 0, none⟩) lk.length lk.length, u43, .slice (some ⟨enb, 0, none⟩) lk.length lk.length, u45, u46, u47, u48, u49, u50, u51, u52, u53, u54, u55, u56, u57, .slice ka K.length kc, u59, u60, u61, u62, u63, u64, u65, u66, u67, u68, u69, u70, u71, u72, undef, undef, undef, undef, undef, u78, u79, u80, u81, u82, u83, u84, u85, u86, u87, u88, u89, u90, u91, u92, u93, u94, u95, u96, u97, u98, u99, u100, u101, u102, u103, u104, u105, u106, u107, u108, u109, u110, u111, u112, u113, u114, u115, u116, u117, u118, u119, u120, u121, u122, u123, u124, u125, u126, u127, u128, u129, u130, u131, u132, u133, u134, u135, u136, u137, u138, u139, u140, u141, u142, u143, u144, u145, u146, u147, u148, u149, u150, u151, u152, u153, u154, u155, u156, u157, u158, u159, u160, u161, u162, u163, u164, u165, u166, u167, u168, u169, u170, u171, u172, u173, u174, u175, u176, u177, u178, u179, u180, u181, u182, u183, u184, u185, u186, u187, u188, u189, u190, u191, u192, u193, u194, u195, u196, u197, u198, u199, u200, u201, u202, u203, u204, u205, u206, u207, u208, u209, u210, u211, u212, u213, u214, u215, u216, u217, u218, u219, u220, u221, u222, u223, u224, u225, u226, u227, u228, u229, u230, u231, u232, u233, u234, u235, u236, u237, u238, u239, u240, u241, u242, u243, u244, u245, u246, u247, u248, u249, u250, u251, u252, u253, u254, u255, u256, u257, u258, u259, u260, u261, u262, u263, u264, u265, u266, u267, u268, u269, u270, u271, u272, u273, u274, u275, u276, u277, u278, u279, u280, u281, u282, u283, u284, u285, u286, u287, u288, u289, u290, u291, u292, u293, u294, u295, u296, u297, u298, u299, u300, u301, u302, u303, u304, u305, u306, u307, u308, u309, u310, u311, u312, u313, u314, u315, u316, u317, u318, u319, u320, u321, u322, u323, u324, u325, u326, u327, u328, u329, u330, u331, u332, u333, u334, u335, u336, u337, u338, u339, u340, u341, u342, u343, u344, u345, u346, u347, u348, u349, u350, u351, u352, u353, u354, u355, u356, u357, u358, u359, u360, u361, u362, u363, u364, u365, u366, u367, u368, u369, u370, u371, u372, u373, u374, u375, u376, u377, u378, u379, u380, u381, u382, u383, u384, u385, u386, u387, u388, u389, u390, u391, u392, u393, u394, u395, u396, u397, u398, u399, u400, u401, u402, u403, u404, u405, u406, u407, u408, u409, u410, u411, u412, u413, u414, u415, u416, u417, u418, u419, u420, u421, u422, u423, u424, u425, u426, u427, u428, u429, u430, u431, u432, u433, u434, u435, u436, u437, u438, u439, u440, u441, u442, u443, u444, u445, u446, u447, u448, u449, u450, u451, u452, u453, u454, u455, u456, u457, u458, u459, u460, u461, u462, u463, u464, u465, u466, u467, u468, u469, u470, u471, u472, u473, u474, u475, u476, u477, u478, u479, u480, u481, u482, u483, u484, u485, u486, u487, u488, u489, u490, u491, u492, u493, u494, u495, u496, u497, u498, u499, u500, u501, u502, u503, u504, u505, u506, u507, u508, u509, u510, u511, u512, u513, u514, u515, u516, u517, u518, u519, u520, u521, u522, u523, u524, u525, u526, u527, u528, u529, u530, u531, u532, u533, u534, u535, u536, u537, undef, undef, undef, undef, undef, undef, undef, undef, undef, undef, undef, undef, undef, undef, undef, undef, undef, undef, undef, undef, undef, undef, undef, undef, undef, undef, undef, undef, undef, undef, undef, undef, undef, undef, undef, undef, undef, undef, undef, undef, undef, undef, undef, undef, undef, undef, undef, undef, undef, undef, undef, undef, undef, undef, undef, undef, undef, undef, undef, undef, undef, undef, undef, undef, undef, undef, undef, undef, undef, undef, undef, undef, undef, undef, undef, undef, undef, undef, undef, undef, undef, undef, undef, undef, undef, undef, undef, undef, undef, undef, undef, undef, undef, undef, undef, undef, undef, undef, undef, undef], defers := [] } wq := by
  have HL : Hid (RdL w la lk) := hL
  have HO : Hid (∀ x ∈ lk, x.ok) := hok
  have HB : Hid (Below w.heap.size w wq) := hB
  have HC : Hid (Ck wq pt rf enb AB GB RB lk N) := hC
  have HK : Hid (Ckk wq mb ka la2 K cap AB lk.length) := hK
  have hm := hK.m42
  have hkn := hK.kn
  clear hL hok hB hC hK
  conv => arg 2; whnf
  go_upto_block 22 with fail
  clear hm
  go_cut [] from 548 to 565 (fun wx => Hid (Ck wx pt rf enb AB GB RB lk N) ∧ Hid (Below w.heap.size w wx))
  case rest =>
    obtain ⟨HC1, HB1⟩ := hcut
    rename_i aK
    exact aK _ _ (t127 b1 HL.out HO.out HB1.out HC1.out)
  case first =>
   go_wp2_with fail
   go_loopw [548] (fun iv wr => ∃ i : Nat, i ≤ K.length ∧ iv = .int .i64 i ∧ Hid (Ck wr pt rf enb AB GB RB lk N) ∧ Hid (Ckk wr mb ka la2 K cap AB lk.length) ∧ Hid (Below w.heap.size w wr)) (fun iv _ => K.length - (intOf iv).toNat)
   case atStart => exact ⟨0, by omega, rfl, HC, HK, HB⟩
   case round =>
     clear HC HB HK
     obtain ⟨i, hi, rfl, HC, HK, HB⟩ := hrel
     by_cases hin : i < K.length
     · obtain ⟨kb, rfl, hkr⟩ := HK.out.kr (by omega)
       obtain ⟨lb, rfl, hlr⟩ := HK.out.lr (by omega)
       obtain ⟨j, hj⟩ : ∃ j, K[i]? = some j := ⟨_, List.getElem?_eq_getElem hin⟩
       have hjn := HK.out.kl j (List.mem_of_getElem? hj)
       have e0 := hkr i j hj
       have e1 := hlr i j hj
       have e2 := HC.out.ptr j hjn
       have e3 := HK.out.m42
       have i0 : (0 : Int) ≤ (i : Int) := by omega
       have i1 : (i : Int) < (K.length : Int) := by omega
       have j0 : (0 : Int) ≤ (j : Int) := by omega
       have j1 : (j : Int) < (lk.length : Int) := by omega
       clear hkr hlr
       have hpn := neq_ptr ⟨AB j, 0, none⟩
       go_upto_region 124 with fail
       go_quiet (fail)
       go_wp2_with fail
       go_roundw
       case rel => exact ⟨i + 1, by omega, by go_num, HC.out.drewN _, HK.out.drewN _, bdrewN HB.out _⟩
       case measure => simp [intOf]; omega
     · obtain rfl : i = K.length := by omega
       go_wp2_with fail
       go_meet
       case rel => exact ⟨HC, HB⟩
end Go.Proofs.Ybulkdvuo
