import Derived.Test.YbulkdvuoTk2
namespace Go.Proofs.Ybulkdvuo
open Go.RowKit
set_option linter.unusedSimpArgs false
set_option maxRecDepth 40000 in
set_option maxHeartbeats 4000000 in
theorem t103 {la la2 : Option Addr} {lk : List In1} {lc S0 L0 mb hb g ob hib lb pt rf inb enb cap eb ec pb : Nat} {c : Pm} {now fr fi id : Int} {l : List Int} {es : Array MapEntry} {ck : Nat} {ids : List Tri} {kv : Value} {GV : List (Gap1 × Value)} {K N : List Nat} {C : List Value} {AB GB RB : Nat → Nat} {w wq : World} {u0 u1 u2 u3 u4 u7 u8 u9 u10 u11 u23 u24 u25 u26 u27 u28 u29 u30 u31 u32 u34 u35 u36 u37 u38 u39 u40 u43 u45 u46 u47 u48 u49 u50 u51 u52 u53 u54 u55 u59 u60 u61 u62 u63 u64 u65 u66 u67 u78 u79 u80 u81 u82 u83 u84 u85 u86 u87 u88 u89 u90 u91 u92 u93 u94 u95 u96 u97 u98 u99 u100 u101 u102 u103 u104 u105 u106 u107 u108 u109 u110 u111 u112 u113 u114 u115 u116 u117 u118 u119 u120 u121 u122 u123 u124 u125 u126 u127 u128 u129 u130 u131 u132 u133 u134 u135 u136 u137 u138 u139 u140 u141 u142 u143 u144 u145 u146 u147 u148 u149 u150 u151 u152 u153 u154 u155 u156 u157 u158 u159 u160 u161 u162 u163 u164 u165 u166 u167 u168 u169 u170 u171 u172 u173 u174 u175 u176 u177 u178 u179 u180 u181 u182 u183 u184 u185 u186 u187 u188 u189 u190 u191 u192 u193 u194 u195 u196 u197 u198 u199 u200 u201 u202 u203 u204 u205 u206 u207 u208 u209 u210 u211 u212 u213 u214 u215 u216 u217 u218 u219 u220 u221 u222 u223 u224 u225 u226 u227 u228 u229 u230 u231 u232 u233 u234 u235 u236 u237 u238 u239 u240 u241 u242 u243 u244 u245 u246 u247 u248 u249 u250 u251 u252 u253 u254 u255 u256 u257 u258 u259 u260 u261 u262 u263 u264 u265 u266 u267 u268 u269 u270 u271 u272 u273 u274 u275 u276 u277 u278 u279 u280 u281 u282 u283 u284 u285 u286 u287 u288 u289 u290 u291 u292 u293 u294 u295 u296 u297 u298 u299 u300 u301 u302 u303 u304 u305 u306 u307 u308 u309 u310 u311 u312 u313 u314 u315 u316 u317 u318 u319 u320 u321 u322 u323 u324 u325 u326 u327 u328 u329 u330 u331 u332 u333 u334 u335 u336 u337 u338 u339 u340 u341 u342 u343 u344 u345 u346 u347 u348 u349 u350 u351 u352 u353 u354 u355 u356 u357 u358 u359 u360 u361 u362 u363 u364 u365 u366 u367 u368 u369 u370 u371 u372 u373 u374 u375 u376 u377 u378 u379 u380 u381 u382 u383 u384 u385 u386 u387 u388 u389 u390 u391 u392 u393 u394 u395 u396 u397 u398 u399 u400 u401 u402 u403 u404 u405 u406 u407 u408 u409 u410 u411 u412 u413 u414 u415 u416 u417 u418 u419 u420 u421 u422 u423 u424 u425 u426 u427 u428 u429 u430 u431 u432 u433 u434 u435 u436 u437 u438 u439 u440 u441 u442 : Value}
    (b1 : lk.length ≤ 4096) (hL : RdL w la lk) (hok : ∀ x ∈ lk, x.ok) (hl : ∀ x ∈ lk, x.refs.length ≤ 4096) (hB : Below w.heap.size w wq) (hmb : w.heap.size ≤ mb)
    (hE : Ev wq S0 mb hb g ob hib c now fr fi id l es ck ids) (hU : Pu c now fr fi id l es ck hb ids) (hH : Hp wq S0 L0 mb lb pt rf inb enb cap la2 AB GB RB lk C) (hN : En wq enb lk.length N) (hR : Rw6 wq L0 eb ec kv GV K) (hg : gaps c 0 (lk.map ackOf) = (GV.map (·.1), K, N)) (hpb : wq.rangeAt pb 0 preCells) :
    Code.wp Yba.prog (cdOf 34 Yba.f3.body) (bodyPost Yba.prog Yba.f3 fun e w' => e = .returned (.bool true) ∧ Below w.heap.size w w') { tmps := #[u0, u1, u2, u3, u4, .int .i64 c.until_, .slice la lk.length lc, u7, u8, u9, u10, u11, undef, undef, undef, undef, undef, undef, undef, undef, undef, undef, undef, u23, u24, u25, u26, u27, u28, u29, u30, u31, u32, .pointer (some ⟨mb, 0, none⟩), u34, u35, u36, u37, u38, u39, u40, .slice (some ⟨pt, 0, none⟩) lk.length lk.length, .slice (some ⟨rf, 0, none⟩) lk.length lk.length, u43, .slice (some ⟨enb, 0, none⟩) lk.length lk.length, u45, u46, u47, u48, u49, u50, u51, u52, u53, u54, u55, .pointer (some ⟨pb, 0, none⟩), .slice (some ⟨eb, 0, none⟩) (1 + GV.length) ec, kv, u59, u60, u61, u62, u63, u64, u65, u66, u67, undef, undef, undef, undef, undef, undef, undef, undef, undef, undef, u78, u79, u80, u81, u82, u83, u84, u85, u86, u87, u88, u89, u90, u91, u92, u93, u94, u95, u96, u97, u98, u99, u100, u101, u102, u103, u104, u105, u106, u107, u108, u109, u110, u111, u112, u113, u114, u115, u116, u117, u118, u119, u120, u121, u122, u123, u124, u125, u126, u127, u128, u129, u130, u131, u132, u133, u134, u135, u136, u137, u138, u139, u140, u141, u142, u143, u144, u145, u146, u147, u148, u149, u150, u151, u152, u153, u154, u155, u156, u157, u158, u159, u160, u161, u162, u163, u164, u165, u166, u167, u168, u169, u170, u171, u172, u173, u174, u175, u176, u177, u178, u179, u180, u181, u182, u183, u184, u185, u186, u187, u188, u189, u190, u191, u192, u193, u194, u195, u196, u197, u198, u199, u200, u201, u202, u203, u204, u205, u206, u207, u208, u209, u210, u211, u212, u213, u214, u215, u216, u217, u218, u219, u220, u221, u222, u223, u224, u225, u226, u227, u228, u229, u230, u231, u232, u233, u234, u235, u236, u237, u238, u239, u240, u241, u242, u243, u244, u245, u246, u247, u248, u249, u250, u251, u252, u253, u254, u255, u256, u257, u258, u259, u260, u261, u262, u263, u264, u265, u266, u267, u268, u269, u270, u271, u272, u273, u274, u275, u276, u277, u278, u279, u280, u281, u282, u283, u284, u285, u286, u287, u288, u289, u290, u291, u292, u293, u294, u295, u296, u297, u298, u299, u300, u301, u302, u303, u304, u305, u306, u307, u308, u309, u310, u311, u312, u313, u314, u315, u316, u317, u318, u319, u320, u321, u322, u323, u324, u325, u326, u327, u328, u329, u330, u331, u332, u333, u334, u335, u336, u337, u338, u339, u340, u341, u342, u343, u344, u345, u346, u347, u348, u349, u350, u351, u352, u353, u354, u355, u356, u357, u358, u359, u360, u361, u362, u363, u364, u365, u366, u367, u368, u369, u370, u371, u372, u373, u374, u375, u376, u377, u378, u379, u380, u381, u382, u383, u384, u385, u386, u387, u388, u389, u390, u391, u392, u393, u394, u395, u396, u397, u398, u399, u400, u401, u402, u403, u404, u405, u406, u407, u408, u409, u410, u411, u412, u413, u414, u415, u416, u417, u418, u419, u420, u421, u422, u423, u424, u425, u426, u427, u428, u429, u430, u431, u432, u433, u434, u435, u436, u437, u438, u439, u440, u441, u442, undef, undef, undef, undef, undef, undef, undef, undef, undef, undef, undef, undef, undef, undef, undef, undef, undef, undef, undef, undef, undef, undef, undef, undef, undef, undef, undef, undef, undef, undef, undef, undef, undef, undef, undef, undef, undef, undef, undef, undef, undef, undef, undef, undef, undef, undef, undef, undef, undef, undef, undef, undef, undef, undef, undef, undef, undef, undef, undef, undef, undef, undef, undef, undef, undef, undef, undef, undef, undef, undef, undef, undef, undef, undef, undef, undef, undef, undef, undef, undef, undef, undef, undef, undef, undef, undef, undef, undef, undef, undef, undef, undef, undef, undef, undef, undef, undef, undef, undef, undef, undef, undef, undef, undef, undef, undef, undef, undef, undef, undef, undef, undef, undef, undef, undef, undef, undef, undef, undef, undef, undef, undef, undef, undef, undef, undef, undef, undef, undef, undef, undef, undef, undef, undef, undef, undef, undef, undef, undef, undef, undef, undef, undef, undef, undef, undef, undef, undef, undef, undef, undef, undef, undef, undef, undef, undef, undef, undef, undef, undef, undef, undef, undef, undef, undef, undef, undef, undef, undef, undef, undef, undef, undef, undef, undef, undef, undef, undef, undef, undef, undef, undef, undef, undef, undef, undef, undef, undef, undef, undef, undef, undef, undef, undef, undef], defers := [] } wq := by
  have HL : Hid (RdL w la lk) := hL
  have HO : Hid (∀ x ∈ lk, x.ok) := hok
  have HLL : Hid (∀ x ∈ lk, x.refs.length ≤ 4096) := hl
  have HB : Hid (Below w.heap.size w wq) := hB
  have HE : Hid (Ev wq S0 mb hb g ob hib c now fr fi id l es ck ids) := hE
  have HU : Hid (Pu c now fr fi id l es ck hb ids) := hU
  have HH : Hid (Hp wq S0 L0 mb lb pt rf inb enb cap la2 AB GB RB lk C) := hH
  have HN : Hid (En wq enb lk.length N) := hN
  have HR : Hid (Rw6 wq L0 eb ec kv GV K) := hR
  have HG : Hid (gaps c 0 (lk.map ackOf) = (GV.map (·.1), K, N)) := hg
  obtain ⟨ka, kc, hkv⟩ : ∃ ka kc, kv = .slice ka K.length kc := by
    rcases hR.ko.2 with ⟨e, hn⟩ | ⟨q, cp, cur, e, _⟩
    · exact ⟨none, 0, by rw [e, hn]⟩
    · exact ⟨_, _, e⟩
  have HKV : Hid (kv = .slice ka K.length kc) := hkv
  obtain ⟨p0, p1, p2, p3, p4, p5, p6⟩ := seven_at hpb
  have hm42 := hH.m42
  have hl1 : GV.length ≤ 4096 := by
    obtain ⟨_, _, f3, _, _⟩ := gaps_facts c (lk.map ackOf) 0
    rw [hg] at f3; simp at f3; omega
  have hge : 1 + GV.length = (((⟨1, 9, 0, []⟩, .slice none 0 0) : Gap1 × Value) :: GV).length := by simp; omega
  have HGE : Hid (1 + GV.length = (((⟨1, 9, 0, []⟩, .slice none 0 0) : Gap1 × Value) :: GV).length) := hge
  clear hL hok hl hB hE hU hH hN hR hg hpb hkv hge
  conv => arg 2; whnf
  dsimp only
  go_upto_region 103 with fail
  go_cut [68] from 443 to 447 (fun gv wx => ∃ (gb gcp : Nat) (LV : List (Gap1 × Value)) (la3 : Option Addr), gv = .slice (some ⟨gb, 0, none⟩) LV.length gcp ∧ Hid (Ck wx pt rf enb AB GB RB lk N) ∧ Hid (Ckk wx mb ka la3 K cap AB lk.length) ∧ Hid (Cg wx eb gb ((⟨1, 9, 0, []⟩, .slice none 0 0) :: GV) LV) ∧ Hid (Below w.heap.size w wx))
  case rest =>
    obtain ⟨gb, gcp, LV, la3, rfl, x1, x2, x3, x4⟩ := hcut
    rename_i aK
    refine aK _ _ ?_
    rw [HKV.out, HGE.out]
    exact t104 b1 HL.out HO.out x4.out x1.out x2.out x3.out (by simp; omega)
  case first =>
  go_wp2_with fail
  by_cases h0 : 0 < lk.length
  · have hLk := lk_of HE.out HH.out h0 (.cells preCells.toArray 107)
    obtain ⟨f, hf⟩ := HU.out.held
    obtain ⟨q, hq, hff⟩ := HU.out.ff
    have hBa : Below wq.heap.size wq (wq.alloc (.cells preCells.toArray 107)) := (Below.refl _ _).alloc (Nat.le_refl _) _
    have hS : S0 ≤ wq.heap.size := HE.out.pl.2.2.2
    have hfo : (wq.alloc (.cells preCells.toArray 107)).ownsRow wq.heap.size 107 7 (.slice (some ⟨wq.heap.size, 0, none⟩) 1 1) 1 preCells :=
      ⟨rfl, Or.inr ⟨wq.heap.size, 1, preCells.toArray, rfl, Nat.le_refl _, heap_alloc_new wq _, Nat.le_refl _, by simp [maxLen], rfl, rfl⟩⟩
    have hal : (lk.map ackOf).length = lk.length := by simp
    refine (messageGaps_any c mb hb lb wq.heap.size S0 cap g AB GB es ck (lk.map ackOf) C f now 0 fr fi id q (some ⟨ob, 0, none⟩) l.length l (wq.alloc (.cells preCells.toArray 107)) hLk hf (by rw [hal]; exact h0) (by rw [hal]; exact b1) ?_ ?_ HU.out.hT HU.out.hr HU.out.hP HU.out.hn (fun V hV => HE.out.mem V ((hBa.mono hS).trans hV)) (cell_mono hBa HE.out.c0) (cell_mono hBa HE.out.c30) HU.out.cl (fun V hV => HE.out.aft V ((hBa.mono hS).trans hV)) hq hff HU.out.b1 HU.out.b2 (by have := HU.out.b3; omega) hfo).mono ?_
    · intro a ha
      obtain ⟨x, hx, rfl⟩ := List.mem_map.1 ha
      exact (HO.out x hx).1
    · intro a ha
      obtain ⟨x, hx, rfl⟩ := List.mem_map.1 ha
      have := HLL.out x hx
      simp only [ackOf, List.length_map]; omega
    · rintro e w' ⟨GV', K', NN, fg, fc, C', wl, rfl, hg', hP, rfl⟩
      rw [hal] at hg' hP
      have hKK : K' = K := by rw [HG.out] at hg'; injection hg' with _ h2; injection h2 with h3 _; exact h3.symm
      subst hKK
      obtain ⟨x1, x2, x3, x4⟩ := aft_of HH.out h0 HN.out HR.out HKV.out HG.out hg' HLL.out hP HB.out hmb
      clear hP hg' hLk hf hff hfo p0 p1 p2 p3 p4 p5 p6 hm42
      generalize wl.setCell ⟨mb, 42, none⟩ (.slice (some ⟨lb, 0, none⟩) K'.length cap) = X at *
      go_wp2_with fail
      go_meet
      case rel => exact ⟨fg, fc, (⟨1, 9, 0, []⟩, .slice none 0 0) :: GV', _, congrArg (fun n => Value.slice (some ⟨fg, 0, none⟩) n fc) (Nat.add_comm 1 _), x1, x2, x3, x4⟩
  · have hl0 : lk = [] := by cases lk with | nil => rfl | cons a r => simp at h0
    subst hl0
    have hgs := HG.out
    simp only [List.map_nil, gaps] at hgs
    injection hgs with g1 g2
    injection g2 with g2 g3
    have hGV : GV = [] := by cases GV with | nil => rfl | cons a r => simp at g1
    subst hGV
    subst g2 g3
    have hBa : Below wq.heap.size wq (wq.alloc (.cells preCells.toArray 107)) := (Below.refl _ _).alloc (Nat.le_refl _) _
    have hm42' : (wq.alloc (.cells preCells.toArray 107)).cell? ⟨mb, 42, none⟩ = some (.slice la2 0 cap) := cell_mono hBa hm42
    refine (messageGaps_none mb c.until_ _ la2 cap _ hm42').mono ?_
    rintro e w' ⟨rfl, rfl⟩
    have hR := HR.out.below hBa (Nat.le_refl _)
    have x1 : Ck (wq.alloc (.cells preCells.toArray 107)) pt rf enb AB GB RB [] [] := ⟨fun j hj => by simp at hj, fun j x hj => by simp at hj, fun j n hj => by simp at hj, fun j x hj => by simp at hj, fun j x hj => by simp at hj, fun j x hj => by simp at hj, fun j x hj => by simp at hj, fun j x hj => by simp at hj, rfl⟩
    have x2 : Ckk (wq.alloc (.cells preCells.toArray 107)) mb ka la2 [] cap AB ([] : List In1).length := ⟨fun h => by simp at h, hm42', fun h => by simp at h, fun j hj => by simp at hj, Nat.le_refl _⟩
    have x3 : Cg (wq.alloc (.cells preCells.toArray 107)) eb wq.heap.size [((⟨1, 9, 0, []⟩, .slice none 0 0) : Gap1 × Value)] [((⟨1, 9, 0, []⟩, .slice none 0 0) : Gap1 × Value)] := by
      refine ⟨?_, ?_, fun p hp => ?_, fun p hp => ?_, rfl, (hR.eo.lt eb rfl).2, by simp, fun p hp => ?_⟩
      · exact own_range hR.eo rfl
      · intro j v hj
        rw [Nat.zero_add, cell_of_row _ _ j _ _ _ (heap_alloc_new wq _)]; simpa [gcs, gc, preCells] using hj
      · simp at hp; subst hp; exact ⟨none, 0, rfl, fun h => by simp at h⟩
      · simp at hp; subst hp; exact ⟨none, 0, rfl, fun h => by simp at h⟩
      · simp at hp; subst hp; simp
    have x4 := HB.out.trans (hBa.mono HB.out.size)
    clear p0 p1 p2 p3 p4 p5 p6 hm42 hm42'
    generalize wq.alloc (.cells preCells.toArray 107) = X at *
    go_wp2_with fail
    go_meet
    case rel => exact ⟨_, _, [((⟨1, 9, 0, []⟩, .slice none 0 0) : Gap1 × Value)], _, rfl, x1, x2, x3, x4⟩
end Go.Proofs.Ybulkdvuo
