import Derived.Test.YbulkdvuoT119
namespace Go.Proofs.Ybulkdvuo
open Go.RowKit
set_option linter.unusedSimpArgs false
/-- a slice of IDs, readable -/
def IdsV (W : World) (v : Value) (ids : List Tri) : Prop := ∃ (a : Option Addr) (c : Nat), v = .slice a ids.length c ∧ (0 < ids.length → ∃ b, a = some ⟨b, 0, none⟩ ∧ W.rangeAt b 0 (tcs ids))
theorem IdsV.mono {W W' : World} {v : Value} {ids : List Tri} (h : IdsV W v ids) (hb : Below W.heap.size W W') : IdsV W' v ids := by
  obtain ⟨a, c, e, h⟩ := h
  exact ⟨a, c, e, fun h0 => by obtain ⟨b, e, hr⟩ := h h0; exact ⟨b, e, range_mono hb hr⟩⟩
/-- the gaps, both sides -/
structure Cg (W : World) (eb gb : Nat) (LE LV : List (Gap1 × Value)) : Prop where
  er : W.rangeAt eb 0 (gcs LE)
  gr : W.rangeAt gb 0 (gcs LV)
  ei : ∀ p ∈ LE, IdsV W p.2 p.1.ids
  gi : ∀ p ∈ LV, IdsV W p.2 p.1.ids
  same : LE.map (·.1) = LV.map (·.1)
  el : eb < W.heap.size
  gl : gb < W.heap.size
  ib : ∀ p ∈ LE, p.1.ids.length ≤ 4096
theorem Cg.mono {W W' : World} {eb gb : Nat} {LE LV : List (Gap1 × Value)} (h : Cg W eb gb LE LV) (hb : Below W.heap.size W W') : Cg W' eb gb LE LV :=
  ⟨range_mono hb h.er, range_mono hb h.gr, fun p hp => (h.ei p hp).mono hb, fun p hp => (h.gi p hp).mono hb, h.same, Nat.lt_of_lt_of_le h.el hb.size, Nat.lt_of_lt_of_le h.gl hb.size, h.ib⟩
theorem Cg.drewN {W : World} {eb gb : Nat} {LE LV : List (Gap1 × Value)} (h : Cg W eb gb LE LV) (m : Nat) : Cg (W.drewN m) eb gb LE LV := ⟨h.er, h.gr, h.ei, h.gi, h.same, h.el, h.gl, h.ib⟩
theorem gc_one (g : Gap1) (a : Option Addr) (n c : Nat) : ∀ v ∈ gc (g, .slice a n c), v.oneCell' = true := by
  intro v hv
  simp only [gc, List.mem_cons, List.not_mem_nil, or_false] at hv
  rcases hv with rfl | rfl | rfl | rfl | rfl | rfl | rfl <;> rfl
theorem seven_at {w : World} {b : Nat} {x0 x1 x2 x3 x4 x5 x6 : Value} (h : w.rangeAt b 0 [x0, x1, x2, x3, x4, x5, x6]) : w.cell? ⟨b, 0, none⟩ = some x0 ∧ w.cell? ⟨b, 1, none⟩ = some x1 ∧ w.cell? ⟨b, 2, none⟩ = some x2 ∧ w.cell? ⟨b, 3, none⟩ = some x3 ∧ w.cell? ⟨b, 4, none⟩ = some x4 ∧ w.cell? ⟨b, 5, none⟩ = some x5 ∧ w.cell? ⟨b, 6, none⟩ = some x6 :=
  ⟨h 0 x0 rfl, h 1 x1 rfl, h 2 x2 rfl, h 3 x3 rfl, h 4 x4 rfl, h 5 x5 rfl, h 6 x6 rfl⟩
set_option maxRecDepth 40000 in
set_option maxHeartbeats 4000000 in
theorem t104 {la : Option Addr} {lk : List In1} {lc pt rf enb mb kc cap eb ec gb gcp : Nat} {ka la2 : Option Addr} {K : List Nat} {LE LV : List (Gap1 × Value)} {AB GB RB : Nat → Nat} {N : List Nat} {w wq : World} {u0 u1 u2 u3 u4 u5 u7 u8 u9 u10 u11 u23 u24 u25 u26 u27 u28 u29 u30 u31 u32 u34 u35 u36 u37 u38 u39 u40 u43 u45 u46 u47 u48 u49 u50 u51 u52 u53 u54 u55 u56 u59 u60 u61 u62 u63 u64 u65 u66 u67 u78 u79 u80 u81 u82 u83 u84 u85 u86 u87 u88 u89 u90 u91 u92 u93 u94 u95 u96 u97 u98 u99 u100 u101 u102 u103 u104 u105 u106 u107 u108 u109 u110 u111 u112 u113 u114 u115 u116 u117 u118 u119 u120 u121 u122 u123 u124 u125 u126 u127 u128 u129 u130 u131 u132 u133 u134 u135 u136 u137 u138 u139 u140 u141 u142 u143 u144 u145 u146 u147 u148 u149 u150 u151 u152 u153 u154 u155 u156 u157 u158 u159 u160 u161 u162 u163 u164 u165 u166 u167 u168 u169 u170 u171 u172 u173 u174 u175 u176 u177 u178 u179 u180 u181 u182 u183 u184 u185 u186 u187 u188 u189 u190 u191 u192 u193 u194 u195 u196 u197 u198 u199 u200 u201 u202 u203 u204 u205 u206 u207 u208 u209 u210 u211 u212 u213 u214 u215 u216 u217 u218 u219 u220 u221 u222 u223 u224 u225 u226 u227 u228 u229 u230 u231 u232 u233 u234 u235 u236 u237 u238 u239 u240 u241 u242 u243 u244 u245 u246 u247 u248 u249 u250 u251 u252 u253 u254 u255 u256 u257 u258 u259 u260 u261 u262 u263 u264 u265 u266 u267 u268 u269 u270 u271 u272 u273 u274 u275 u276 u277 u278 u279 u280 u281 u282 u283 u284 u285 u286 u287 u288 u289 u290 u291 u292 u293 u294 u295 u296 u297 u298 u299 u300 u301 u302 u303 u304 u305 u306 u307 u308 u309 u310 u311 u312 u313 u314 u315 u316 u317 u318 u319 u320 u321 u322 u323 u324 u325 u326 u327 u328 u329 u330 u331 u332 u333 u334 u335 u336 u337 u338 u339 u340 u341 u342 u343 u344 u345 u346 u347 u348 u349 u350 u351 u352 u353 u354 u355 u356 u357 u358 u359 u360 u361 u362 u363 u364 u365 u366 u367 u368 u369 u370 u371 u372 u373 u374 u375 u376 u377 u378 u379 u380 u381 u382 u383 u384 u385 u386 u387 u388 u389 u390 u391 u392 u393 u394 u395 u396 u397 u398 u399 u400 u401 u402 u403 u404 u405 u406 u407 u408 u409 u410 u411 u412 u413 u414 u415 u416 u417 u418 u419 u420 u421 u422 u423 u424 u425 u426 u427 u428 u429 u430 u431 u432 u433 u434 u435 u436 u437 u438 u439 u440 u441 u442 u443 u444 u445 u446 u447 : Value}
    (b1 : lk.length ≤ 4096) (hL : RdL w la lk) (hok : ∀ x ∈ lk, x.ok) (hB : Below w.heap.size w wq) (hC : Ck wq pt rf enb AB GB RB lk N) (hK : Ckk wq mb ka la2 K cap AB lk.length) (hG : Cg wq eb gb LE LV) (hl : LE.length ≤ 4097) :
    Code.wp Yba.prog (cdOf 35 Yba.f3.body) (bodyPost Yba.prog Yba.f3 fun e w' => e = .returned (.bool true) ∧ Below w.heap.size w w') { tmps := #[u0, u1, u2, u3, u4, u5, .slice la lk.length lc, u7, u8, u9, u10, u11, undef, undef, undef, undef, undef, undef, undef, undef, undef, undef, undef, u23, u24, u25, u26, u27, u28, u29, u30, u31, u32, .pointer (some ⟨mb, 0, none⟩), u34, u35, u36, u37, u38, u39, u40, .slice (some ⟨pt, 0, none⟩) lk.length lk.length, .slice (some ⟨rf, 0, none⟩) lk.length lk.length, u43, .slice (some ⟨enb, 0, none⟩) lk.length lk.length, u45, u46, u47, u48, u49, u50, u51, u52, u53, u54, u55, u56, .slice (some ⟨eb, 0, none⟩) LE.length ec, .slice ka K.length kc, u59, u60, u61, u62, u63, u64, u65, u66, u67, .slice (some ⟨gb, 0, none⟩) LV.length gcp, undef, undef, undef, undef, undef, undef, undef, undef, undef, u78, u79, u80, u81, u82, u83, u84, u85, u86, u87, u88, u89, u90, u91, u92, u93, u94, u95, u96, u97, u98, u99, u100, u101, u102, u103, u104, u105, u106, u107, u108, u109, u110, u111, u112, u113, u114, u115, u116, u117, u118, u119, u120, u121, u122, u123, u124, u125, u126, u127, u128, u129, u130, u131, u132, u133, u134, u135, u136, u137, u138, u139, u140, u141, u142, u143, u144, u145, u146, u147, u148, u149, u150, u151, u152, u153, u154, u155, u156, u157, u158, u159, u160, u161, u162, u163, u164, u165, u166, u167, u168, u169, u170, u171, u172, u173, u174, u175, u176, u177, u178, u179, u180, u181, u182, u183, u184, u185, u186, u187, u188, u189, u190, u191, u192, u193, u194, u195, u196, u197, u198, u199, u200, u201, u202, u203, u204, u205, u206, u207, u208, u209, u210, u211, u212, u213, u214, u215, u216, u217, u218, u219, u220, u221, u222, u223, u224, u225, u226, u227, u228, u229, u230, u231, u232, u233, u234, u235, u236, u237, u238, u239, u240, u241, u242, u243, u244, u245, u246, u247, u248, u249, u250, u251, u252, u253, u254, u255, u256, u257, u258, u259, u260, u261, u262, u263, u264, u265, u266, u267, u268, u269, u270, u271, u272, u273, u274, u275, u276, u277, u278, u279, u280, u281, u282, u283, u284, u285, u286, u287, u288, u289, u290, u291, u292, u293, u294, u295, u296, u297, u298, u299, u300, u301, u302, u303, u304, u305, u306, u307, u308, u309, u310, u311, u312, u313, u314, u315, u316, u317, u318, u319, u320, u321, u322, u323, u324, u325, u326, u327, u328, u329, u330, u331, u332, u333, u334, u335, u336, u337, u338, u339, u340, u341, u342, u343, u344, u345, u346, u347, u348, u349, u350, u351, u352, u353, u354, u355, u356, u357, u358, u359, u360, u361, u362, u363, u364, u365, u366, u367, u368, u369, u370, u371, u372, u373, u374, u375, u376, u377, u378, u379, u380, u381, u382, u383, u384, u385, u386, u387, u388, u389, u390, u391, u392, u393, u394, u395, u396, u397, u398, u399, u400, u401, u402, u403, u404, u405, u406, u407, u408, u409, u410, u411, u412, u413, u414, u415, u416, u417, u418, u419, u420, u421, u422, u423, u424, u425, u426, u427, u428, u429, u430, u431, u432, u433, u434, u435, u436, u437, u438, u439, u440, u441, u442, u443, u444, u445, u446, u447, undef, undef, undef, undef, undef, undef, undef, undef, undef, undef, undef, undef, undef, undef, undef, undef, undef, undef, undef, undef, undef, undef, undef, undef, undef, undef, undef, undef, undef, undef, undef, undef, undef, undef, undef, undef, undef, undef, undef, undef, undef, undef, undef, undef, undef, undef, undef, undef, undef, undef, undef, undef, undef, undef, undef, undef, undef, undef, undef, undef, undef, undef, undef, undef, undef, undef, undef, undef, undef, undef, undef, undef, undef, undef, undef, undef, undef, undef, undef, undef, undef, undef, undef, undef, undef, undef, undef, undef, undef, undef, undef, undef, undef, undef, undef, undef, undef, undef, undef, undef, undef, undef, undef, undef, undef, undef, undef, undef, undef, undef, undef, undef, undef, undef, undef, undef, undef, undef, undef, undef, undef, undef, undef, undef, undef, undef, undef, undef, undef, undef, undef, undef, undef, undef, undef, undef, undef, undef, undef, undef, undef, undef, undef, undef, undef, undef, undef, undef, undef, undef, undef, undef, undef, undef, undef, undef, undef, undef, undef, undef, undef, undef, undef, undef, undef, undef, undef, undef, undef, undef, undef, undef, undef, undef, undef, undef, undef, undef, undef, undef, undef, undef, undef, undef, undef, undef, undef, undef, undef, undef], defers := [] } wq := by
  have HL : Hid (RdL w la lk) := hL
  have HO : Hid (∀ x ∈ lk, x.ok) := hok
  have HB : Hid (Below w.heap.size w wq) := hB
  have HC : Hid (Ck wq pt rf enb AB GB RB lk N) := hC
  have HK : Hid (Ckk wq mb ka la2 K cap AB lk.length) := hK
  have HG : Hid (Cg wq eb gb LE LV) := hG
  have hsl : LV.length = LE.length := by have := congrArg List.length hG.same; simpa using this.symm
  clear hL hok hB hC hK hG
  rw [hsl]
  conv => arg 2; whnf
  go_upto_block 18 with fail
  go_cut [] from 455 to 537 (fun wx => Hid (Ck wx pt rf enb AB GB RB lk N) ∧ Hid (Ckk wx mb ka la2 K cap AB lk.length) ∧ Hid (Below w.heap.size w wx))
  case rest =>
    obtain ⟨HC1, HK1, HB1⟩ := hcut
    rename_i aK
    exact aK _ _ (t119 b1 HL.out HO.out HB1.out HC1.out HK1.out)
  case first =>
   go_wp2_with fail
   go_loopw [455] (fun iv wr => ∃ i : Nat, i ≤ LE.length ∧ iv = .int .i64 i ∧ Hid (Ck wr pt rf enb AB GB RB lk N) ∧ Hid (Ckk wr mb ka la2 K cap AB lk.length) ∧ Hid (Cg wr eb gb LE LV) ∧ Hid (Below w.heap.size w wr)) (fun iv _ => LE.length - (intOf iv).toNat)
   case atStart => exact ⟨0, by omega, rfl, HC, HK, HG, HB⟩
   case round =>
     clear HC HB HK HG
     obtain ⟨i, hi, rfl, HC, HK, HG, HB⟩ := hrel
     by_cases hin : i < LE.length
     · obtain ⟨⟨g, ve⟩, hE⟩ : ∃ p, LE[i]? = some p := ⟨_, List.getElem?_eq_getElem hin⟩
       obtain ⟨vg, hV⟩ : ∃ vg, LV[i]? = some (g, vg) := by
         have := congrArg (·[i]?) HG.out.same
         simp only [List.getElem?_map, hE, Option.map_some] at this
         cases hq : LV[i]? with
         | none => rw [hq] at this; cases this
         | some p =>
           rw [hq] at this
           simp only [Option.map_some, Option.some.injEq] at this
           exact ⟨p.2, by rw [this]⟩
       obtain ⟨ae, ce, rfl, he⟩ : IdsV wr ve g.ids := HG.out.ei _ (List.mem_of_getElem? hE)
       obtain ⟨ag, cg, rfl, hg⟩ : IdsV wr vg g.ids := HG.out.gi _ (List.mem_of_getElem? hV)
       have hib : g.ids.length ≤ 4096 := HG.out.ib _ (List.mem_of_getElem? hE)
       have hrE := flatAt (f := gc) (n := 7) (fun _ _ => rfl) HG.out.er hE
       have hrG := flatAt (f := gc) (n := 7) (fun _ _ => rfl) HG.out.gr hV
       rw [Nat.zero_add] at hrE hrG
       have hel := HG.out.el
       have hgl := HG.out.gl
       have HE : Hid (0 < g.ids.length → ∃ b, ae = some ⟨b, 0, none⟩ ∧ wr.rangeAt b 0 (tcs g.ids)) := he
       have HGI : Hid (0 < g.ids.length → ∃ b, ag = some ⟨b, 0, none⟩ ∧ wr.rangeAt b 0 (tcs g.ids)) := hg
       have h1E := gc_one g ae g.ids.length ce
       have h1G := gc_one g ag g.ids.length cg
       have hlE : (gc (g, .slice ae g.ids.length ce)).length = 7 := rfl
       have hlG : (gc (g, .slice ag g.ids.length cg)).length = 7 := rfl
       obtain ⟨cE, hcE⟩ : ∃ cE, gc (g, .slice ae g.ids.length ce) = cE := ⟨_, rfl⟩
       obtain ⟨cG, hcG⟩ : ∃ cG, gc (g, .slice ag g.ids.length cg) = cG := ⟨_, rfl⟩
       have HCE : Hid (gc (g, .slice ae g.ids.length ce) = cE) := hcE
       have HCG : Hid (gc (g, .slice ag g.ids.length cg) = cG) := hcG
       rw [hcE] at hrE h1E hlE
       rw [hcG] at hrG h1G hlG
       clear hcE hcG he hg
       have f107E : (Yba.prog.info? 107).map (·.size) = some cE.length := by rw [hlE]; kernel_rfl
       have f107G : (Yba.prog.info? 107).map (·.size) = some cG.length := by rw [hlG]; kernel_rfl
       have i0 : (0 : Int) ≤ (i : Int) := by omega
       have i1 : (i : Int) < (LE.length : Int) := by omega
       go_upto_region 109 with fail
       go_cut [70, 71] from 458 to 465 (fun s t wx => ∃ p q, s = .pointer (some ⟨p, 0, none⟩) ∧ t = .pointer (some ⟨q, 0, none⟩) ∧ Hid (wx.rangeAt p 0 cG) ∧ Hid (wx.rangeAt q 0 cE) ∧ Hid (Below wr.heap.size wr wx))
       case first =>
         refine wp_region_held_drew (S := fun V => (V.rangeAt gb (i * 7) cG ∧ V.rangeAt eb (i * 7) cE ∧ Below wr.heap.size wr V)) (by kernel_rfl) (by exact ⟨hrG, hrE, (Below.refl _ _).drew⟩) (fun hHeld => ?_)
         refine take_val (i := 0) (dst := some 458) (v := .slice (some ⟨gb, 0, none⟩) LE.length gcp) rfl rfl (by kernel_rfl) (by kernel_rfl) (by kernel_rfl) (fun _ _ _ h => h) (yields_move (by rfl) _ rfl rfl) hHeld ?_
         simp only [Act.put, List.setIfInBounds_toArray, List.set_cons_zero, List.set_cons_succ]
         refine take_val (i := 1) (dst := some 459) (v := .int .i64 i) rfl rfl (by kernel_rfl) (by kernel_rfl) (by kernel_rfl) (fun _ _ _ h => h) (yields_move (by rfl) _ rfl rfl) hHeld ?_
         simp only [Act.put, List.setIfInBounds_toArray, List.set_cons_zero, List.set_cons_succ]
         refine take_val (i := 2) (dst := some 460) (v := .pointer (some ⟨gb, i * 7, none⟩)) rfl rfl (by kernel_rfl) (by kernel_rfl) (by kernel_rfl) (fun _ _ _ h => h) (Or.inl ⟨by rfl, fun w' hSw => by (try dsimp only at hSw); clear hSw; go_simp⟩) hHeld ?_
         simp only [Act.put, List.setIfInBounds_toArray, List.set_cons_zero, List.set_cons_succ]
         refine take_val (i := 3) (dst := some 461) (v := .agg cG.toArray) rfl rfl (by kernel_rfl) (by kernel_rfl) (by kernel_rfl) (fun _ _ _ h => h) (yieldsIf_load_mid (by rfl) 107 (.tmp 460) rfl gb (i * 7) rfl cG _ (fun _ h => h.1) Yba.underlying107 rfl f107G) hHeld ?_
         simp only [Act.put, List.setIfInBounds_toArray, List.set_cons_zero, List.set_cons_succ]
         refine take_val (i := 4) (dst := some 462) (v := .slice (some ⟨eb, 0, none⟩) LE.length ec) rfl rfl (by kernel_rfl) (by kernel_rfl) (by kernel_rfl) (fun _ _ _ h => h) (yields_move (by rfl) _ rfl rfl) hHeld ?_
         simp only [Act.put, List.setIfInBounds_toArray, List.set_cons_zero, List.set_cons_succ]
         refine take_val (i := 5) (dst := some 463) (v := .int .i64 i) rfl rfl (by kernel_rfl) (by kernel_rfl) (by kernel_rfl) (fun _ _ _ h => h) (yields_move (by rfl) _ rfl rfl) hHeld ?_
         simp only [Act.put, List.setIfInBounds_toArray, List.set_cons_zero, List.set_cons_succ]
         refine take_val (i := 6) (dst := some 464) (v := .pointer (some ⟨eb, i * 7, none⟩)) rfl rfl (by kernel_rfl) (by kernel_rfl) (by kernel_rfl) (fun _ _ _ h => h) (Or.inl ⟨by rfl, fun w' hSw => by (try dsimp only at hSw); clear hSw; go_simp⟩) hHeld ?_
         simp only [Act.put, List.setIfInBounds_toArray, List.set_cons_zero, List.set_cons_succ]
         refine take_val (i := 7) (dst := some 465) (v := .agg cE.toArray) rfl rfl (by kernel_rfl) (by kernel_rfl) (by kernel_rfl) (fun _ _ _ h => h) (yieldsIf_load_mid (by rfl) 107 (.tmp 464) rfl eb (i * 7) rfl cE _ (fun _ h => h.2.1) Yba.underlying107 rfl f107E) hHeld ?_
         simp only [Act.put, List.setIfInBounds_toArray, List.set_cons_zero, List.set_cons_succ]
         refine gen_any (fun V => (V.rangeAt gb (i * 7) cG ∧ V.rangeAt eb (i * 7) cE ∧ Below wr.heap.size wr V)) hHeld ?_
         clear hHeld
         rintro V0 hHeld
         refine wpAnyH_ready (rs := [8, 9]) (by kernel_rfl) (by simp) ?_
         refine AllReadyH.cons rfl (fun KK hK => ?_) ?_
         · go_simp
           refine hK.out _ _ ⟨World.rangeAt_alloc hHeld.1 _, World.rangeAt_alloc hHeld.2.1 _, hHeld.2.2.alloc hHeld.2.2.size _⟩ (fun hHeld2 => ?_)
           clear hK KK
           try simp only [Act.put, List.setIfInBounds_toArray, List.set_cons_zero, List.set_cons_succ]
           have ge_p : wr.heap.size ≤ V0.heap.size := hHeld.2.2.size
           refine gen_any (fun V => (V.rangeAt gb (i * 7) cG ∧ V.rangeAt eb (i * 7) cE ∧ Below wr.heap.size wr V) ∧ V.there V0.heap.size 0 7 ∧ V0.heap.size < V.heap.size) ⟨hHeld2, there_new (by decide), by simp⟩ ?_
           clear hHeld2 hHeld
           rintro V1 ⟨hHeld, th_p, lt_p⟩
           refine wpAnyH_ready (rs := [9]) (by kernel_rfl) (by simp) ?_
           refine AllReadyH.cons rfl (fun KK hK => ?_) AllReadyH.nil
           go_simp
           refine hK.out _ _ ⟨World.rangeAt_alloc hHeld.1 _, World.rangeAt_alloc hHeld.2.1 _, hHeld.2.2.alloc hHeld.2.2.size _⟩ (fun hHeld2 => ?_)
           clear hK KK
           try simp only [Act.put, List.setIfInBounds_toArray, List.set_cons_zero, List.set_cons_succ]
           have ge_q : wr.heap.size ≤ V1.heap.size := hHeld.2.2.size
           have ne_pq : V1.heap.size ≠ V0.heap.size := by omega
           refine gen_any (fun V => (V.rangeAt gb (i * 7) cG ∧ V.rangeAt eb (i * 7) cE ∧ Below wr.heap.size wr V) ∧ V.there V1.heap.size 0 7 ∧ V1.heap.size < V.heap.size ∧ V.there V0.heap.size 0 7 ∧ V0.heap.size < V.heap.size) ⟨hHeld2, there_new (by decide), by simp, there_below ((Below.refl _ _).alloc (Nat.le_refl _) _) lt_p th_p, Nat.lt_of_lt_of_le lt_p (by simp)⟩ ?_
           clear hHeld2 hHeld
           clear th_p lt_p
           rintro V2 ⟨hHeld, th_q, lt_q, th_p, lt_p⟩
           refine wpAnyH_ready (rs := [10]) (by kernel_rfl) (by simp) ?_
           refine AllReadyH.cons rfl (fun KK hK => ?_) AllReadyH.nil
           refine come_store (by rfl) rfl 107 _ _ rfl (V0.heap.size) 0 cG rfl rfl (by rw [hlG]; exact th_p) f107G h1G ?_
           refine hK.out _ _ ⟨World.rangeAt_setCells_apart hHeld.1 _ _ _ (Or.inl (by omega)), World.rangeAt_setCells_apart hHeld.2.1 _ _ _ (Or.inl (by omega)), below_setCells hHeld.2.2 ge_p _ _⟩ (fun hHeld2 => ?_)
           clear hK KK
           refine gen_any (fun V => (V.rangeAt gb (i * 7) cG ∧ V.rangeAt eb (i * 7) cE ∧ Below wr.heap.size wr V) ∧ V.rangeAt V0.heap.size 0 cG ∧ V.there V0.heap.size 0 7 ∧ V0.heap.size < V.heap.size ∧ V.there V1.heap.size 0 7 ∧ V1.heap.size < V.heap.size) ⟨hHeld2, World.rangeAt_setCells_same _ _ _ _ (by rw [hlG]; exact th_p), World.there_setCells th_p _ _ _, by rw [size_setCells]; exact lt_p, World.there_setCells th_q _ _ _, by rw [size_setCells]; exact lt_q⟩ ?_
           clear hHeld2 hHeld th_p lt_p th_q lt_q
           rintro V3 ⟨hHeld, rg_p, th_p, lt_p, th_q, lt_q⟩
           refine wpAnyH_ready (rs := [11]) (by kernel_rfl) (by simp) ?_
           refine AllReadyH.cons rfl (fun KK hK => ?_) AllReadyH.nil
           refine come_store (by rfl) rfl 107 _ _ rfl (V1.heap.size) 0 cE rfl rfl (by rw [hlE]; exact th_q) f107E h1E ?_
           refine hK.out _ _ ⟨World.rangeAt_setCells_apart hHeld.1 _ _ _ (Or.inl (by omega)), World.rangeAt_setCells_apart hHeld.2.1 _ _ _ (Or.inl (by omega)), below_setCells hHeld.2.2 ge_q _ _⟩ (fun hHeld2 => ?_)
           clear hK KK
           refine gen_any (fun V => (V.rangeAt gb (i * 7) cG ∧ V.rangeAt eb (i * 7) cE ∧ Below wr.heap.size wr V) ∧ V.rangeAt V1.heap.size 0 cE ∧ V.there V1.heap.size 0 7 ∧ V1.heap.size < V.heap.size ∧ V.there V0.heap.size 0 7 ∧ V0.heap.size < V.heap.size ∧ V.rangeAt V0.heap.size 0 cG) ⟨hHeld2, World.rangeAt_setCells_same _ _ _ _ (by rw [hlE]; exact th_q), World.there_setCells th_q _ _ _, by rw [size_setCells]; exact lt_q, World.there_setCells th_p _ _ _, by rw [size_setCells]; exact lt_p, World.rangeAt_setCells_apart rg_p _ _ _ (Or.inl (by omega))⟩ ?_
           clear hHeld2 hHeld th_q lt_q th_p lt_p rg_p
           rintro V4 ⟨hHeld, rg_q, th_q, lt_q, th_p, lt_p, rg_p⟩
           refine wpAnyH_done (by kernel_rfl) ?_ _
           have HW : Hid (Below wr.heap.size wr V4) := hHeld.2.2
           clear hHeld
           go_wp2_with fail
           go_meet
           case rel => exact ⟨V0.heap.size, V1.heap.size, rfl, rfl, rg_p, rg_q, HW⟩
         refine AllReadyH.cons rfl (fun KK hK => ?_) AllReadyH.nil
         go_simp
         refine hK.out _ _ ⟨World.rangeAt_alloc hHeld.1 _, World.rangeAt_alloc hHeld.2.1 _, hHeld.2.2.alloc hHeld.2.2.size _⟩ (fun hHeld2 => ?_)
         clear hK KK
         try simp only [Act.put, List.setIfInBounds_toArray, List.set_cons_zero, List.set_cons_succ]
         have ge_q : wr.heap.size ≤ V0.heap.size := hHeld.2.2.size
         refine gen_any (fun V => (V.rangeAt gb (i * 7) cG ∧ V.rangeAt eb (i * 7) cE ∧ Below wr.heap.size wr V) ∧ V.there V0.heap.size 0 7 ∧ V0.heap.size < V.heap.size) ⟨hHeld2, there_new (by decide), by simp⟩ ?_
         clear hHeld2 hHeld
         rintro V5 ⟨hHeld, th_q, lt_q⟩
         refine wpAnyH_ready (rs := [8]) (by kernel_rfl) (by simp) ?_
         refine AllReadyH.cons rfl (fun KK hK => ?_) AllReadyH.nil
         go_simp
         refine hK.out _ _ ⟨World.rangeAt_alloc hHeld.1 _, World.rangeAt_alloc hHeld.2.1 _, hHeld.2.2.alloc hHeld.2.2.size _⟩ (fun hHeld2 => ?_)
         clear hK KK
         try simp only [Act.put, List.setIfInBounds_toArray, List.set_cons_zero, List.set_cons_succ]
         have ge_p : wr.heap.size ≤ V5.heap.size := hHeld.2.2.size
         have ne_pq : V5.heap.size ≠ V0.heap.size := by omega
         refine gen_any (fun V => (V.rangeAt gb (i * 7) cG ∧ V.rangeAt eb (i * 7) cE ∧ Below wr.heap.size wr V) ∧ V.there V5.heap.size 0 7 ∧ V5.heap.size < V.heap.size ∧ V.there V0.heap.size 0 7 ∧ V0.heap.size < V.heap.size) ⟨hHeld2, there_new (by decide), by simp, there_below ((Below.refl _ _).alloc (Nat.le_refl _) _) lt_q th_q, Nat.lt_of_lt_of_le lt_q (by simp)⟩ ?_
         clear hHeld2 hHeld
         clear th_q lt_q
         rintro V6 ⟨hHeld, th_p, lt_p, th_q, lt_q⟩
         refine wpAnyH_ready (rs := [10]) (by kernel_rfl) (by simp) ?_
         refine AllReadyH.cons rfl (fun KK hK => ?_) AllReadyH.nil
         refine come_store (by rfl) rfl 107 _ _ rfl (V5.heap.size) 0 cG rfl rfl (by rw [hlG]; exact th_p) f107G h1G ?_
         refine hK.out _ _ ⟨World.rangeAt_setCells_apart hHeld.1 _ _ _ (Or.inl (by omega)), World.rangeAt_setCells_apart hHeld.2.1 _ _ _ (Or.inl (by omega)), below_setCells hHeld.2.2 ge_p _ _⟩ (fun hHeld2 => ?_)
         clear hK KK
         refine gen_any (fun V => (V.rangeAt gb (i * 7) cG ∧ V.rangeAt eb (i * 7) cE ∧ Below wr.heap.size wr V) ∧ V.rangeAt V5.heap.size 0 cG ∧ V.there V5.heap.size 0 7 ∧ V5.heap.size < V.heap.size ∧ V.there V0.heap.size 0 7 ∧ V0.heap.size < V.heap.size) ⟨hHeld2, World.rangeAt_setCells_same _ _ _ _ (by rw [hlG]; exact th_p), World.there_setCells th_p _ _ _, by rw [size_setCells]; exact lt_p, World.there_setCells th_q _ _ _, by rw [size_setCells]; exact lt_q⟩ ?_
         clear hHeld2 hHeld th_p lt_p th_q lt_q
         rintro V7 ⟨hHeld, rg_p, th_p, lt_p, th_q, lt_q⟩
         refine wpAnyH_ready (rs := [11]) (by kernel_rfl) (by simp) ?_
         refine AllReadyH.cons rfl (fun KK hK => ?_) AllReadyH.nil
         refine come_store (by rfl) rfl 107 _ _ rfl (V0.heap.size) 0 cE rfl rfl (by rw [hlE]; exact th_q) f107E h1E ?_
         refine hK.out _ _ ⟨World.rangeAt_setCells_apart hHeld.1 _ _ _ (Or.inl (by omega)), World.rangeAt_setCells_apart hHeld.2.1 _ _ _ (Or.inl (by omega)), below_setCells hHeld.2.2 ge_q _ _⟩ (fun hHeld2 => ?_)
         clear hK KK
         refine gen_any (fun V => (V.rangeAt gb (i * 7) cG ∧ V.rangeAt eb (i * 7) cE ∧ Below wr.heap.size wr V) ∧ V.rangeAt V0.heap.size 0 cE ∧ V.there V0.heap.size 0 7 ∧ V0.heap.size < V.heap.size ∧ V.there V5.heap.size 0 7 ∧ V5.heap.size < V.heap.size ∧ V.rangeAt V5.heap.size 0 cG) ⟨hHeld2, World.rangeAt_setCells_same _ _ _ _ (by rw [hlE]; exact th_q), World.there_setCells th_q _ _ _, by rw [size_setCells]; exact lt_q, World.there_setCells th_p _ _ _, by rw [size_setCells]; exact lt_p, World.rangeAt_setCells_apart rg_p _ _ _ (Or.inl (by omega))⟩ ?_
         clear hHeld2 hHeld th_q lt_q th_p lt_p rg_p
         rintro V8 ⟨hHeld, rg_q, th_q, lt_q, th_p, lt_p, rg_p⟩
         refine wpAnyH_done (by kernel_rfl) ?_ _
         have HW : Hid (Below wr.heap.size wr V8) := hHeld.2.2
         clear hHeld
         go_wp2_with fail
         go_meet
         case rel => exact ⟨V5.heap.size, V0.heap.size, rfl, rfl, rg_p, rg_q, HW⟩
       case rest =>
         obtain ⟨p, q, rfl, rfl, HP, HQ, HW⟩ := hcut
         have HC1 : Hid (Ck wc pt rf enb AB GB RB lk N) := HC.out.mono HW.out
         have HK1 : Hid (Ckk wc mb ka la2 K cap AB lk.length) := HK.out.mono HW.out
         have HG1 : Hid (Cg wc eb gb LE LV) := HG.out.mono HW.out
         have HB1 : Hid (Below w.heap.size w wc) := HB.out.trans (HW.out.mono HB.out.size)
         have HE1 : Hid (0 < g.ids.length → ∃ b, ae = some ⟨b, 0, none⟩ ∧ wc.rangeAt b 0 (tcs g.ids)) := fun h0 => by obtain ⟨b, e, hr⟩ := HE.out h0; exact ⟨b, e, range_mono HW.out hr⟩
         have HI1 : Hid (0 < g.ids.length → ∃ b, ag = some ⟨b, 0, none⟩ ∧ wc.rangeAt b 0 (tcs g.ids)) := fun h0 => by obtain ⟨b, e, hr⟩ := HGI.out h0; exact ⟨b, e, range_mono HW.out hr⟩
         rw [← HCG.out] at HP
         rw [← HCE.out] at HQ
         clear HC HK HG HB HE HGI HW hrE hrG hel hgl h1E h1G hlE hlG f107E f107G HCE HCG
         clear cE cG
         obtain ⟨p0, p1, p2, p3, p4, p5, p6⟩ := seven_at HP.out
         obtain ⟨q0, q1, q2, q3, q4, q5, q6⟩ := seven_at HQ.out
         go_wp2_with fail
         clear p0 p1 p2 p3 p4 p5 p6 q0 q1 q2 q3 q4 q5 q6
         generalize hX : wc = wX at *
         clear hX
         go_loopw [520] (fun kv wr => ∃ k : Nat, k ≤ g.ids.length ∧ kv = .int .i64 k ∧ Hid (Ck wr pt rf enb AB GB RB lk N) ∧ Hid (Ckk wr mb ka la2 K cap AB lk.length) ∧ Hid (Cg wr eb gb LE LV) ∧ Hid (Below w.heap.size w wr) ∧ Hid (0 < g.ids.length → ∃ b, ae = some ⟨b, 0, none⟩ ∧ wr.rangeAt b 0 (tcs g.ids)) ∧ Hid (0 < g.ids.length → ∃ b, ag = some ⟨b, 0, none⟩ ∧ wr.rangeAt b 0 (tcs g.ids)) ∧ Hid (wr.rangeAt p 0 (gc (g, .slice ag g.ids.length cg))) ∧ Hid (wr.rangeAt q 0 (gc (g, .slice ae g.ids.length ce)))) (fun kv _ => g.ids.length - (intOf kv).toNat)
         case atStart => exact ⟨0, by omega, rfl, HC1, HK1, HG1, HB1, HE1, HI1, HP, HQ⟩
         case round =>
           clear HC1 HK1 HG1 HB1 HE1 HI1 HP HQ
           obtain ⟨k, hk, rfl, HC, HK, HG, HB, HE, HI, HP, HQ⟩ := hrel
           by_cases hkn : k < g.ids.length
           · obtain ⟨t, ht⟩ : ∃ t, g.ids[k]? = some t := ⟨_, List.getElem?_eq_getElem hkn⟩
             obtain ⟨be, rfl, hre⟩ := HE.out (by omega)
             obtain ⟨bg, rfl, hrg⟩ := HI.out (by omega)
             obtain ⟨r0, r1, r2⟩ := tcs_at hre ht
             obtain ⟨s0, s1, s2⟩ := tcs_at hrg ht
             obtain ⟨_, _, _, _, _, p5, _⟩ := seven_at HP.out
             obtain ⟨_, _, _, _, _, q5, _⟩ := seven_at HQ.out
             have k0 : (0 : Int) ≤ (k : Int) := by omega
             have k1 : (k : Int) < (g.ids.length : Int) := by omega
             clear hre hrg
             go_upto_region 115 with fail
             go_quiet (fail)
             go_wp2_with fail
             go_roundw
             case rel => exact ⟨k + 1, by omega, by go_num, HC.out.drewN _, HK.out.drewN _, HG.out.drewN _, bdrewN HB.out _, HE, HI, HP, HQ⟩
             case measure => simp [intOf]; omega
           · obtain rfl : k = g.ids.length := by omega
             go_wp2_with fail
             go_roundw
             case rel => exact ⟨i + 1, by omega, by go_num, HC, HK, HG, HB⟩
             case measure => simp [intOf]; omega
     · obtain rfl : i = LE.length := by omega
       go_wp2_with fail
       go_meet
       case rel => exact ⟨HC, HK, HB⟩
end Go.Proofs.Ybulkdvuo
