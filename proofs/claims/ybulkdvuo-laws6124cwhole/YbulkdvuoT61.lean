import Derived.Test.YbulkdvuoTk3
namespace Go.Proofs.Ybulkdvuo
open Go.RowKit
set_option linter.unusedSimpArgs false
theorem own_slice {W : World} {B s n : Nat} {e : TypeId} {v : Value} {xs : List Value} (h : W.ownsRow B e s v n xs) : ∃ a c, v = .slice a n c := by
  rcases h.2 with ⟨e, hn⟩ | ⟨q, cp, cur, e, _⟩
  · exact ⟨none, 0, by rw [e, hn]⟩
  · exact ⟨_, _, e⟩
set_option maxRecDepth 40000 in
set_option maxHeartbeats 4000000 in
theorem t61 {la : Option Addr} {lk : List In1} {lc S0 mb hb g ob hib pt rf inb enb jb : Nat} {c : Pm} {now fr fi id jJ : Int} {jOn jHeld : Bool} {l : List Int} {es : Array MapEntry} {ck : Nat} {ids : List Tri} {AB GB RB : Nat → Nat} {w wq : World} {u0 u1 u2 u3 u7 u8 u11 u24 u25 u26 u27 u31 u35 u36 u38 u39 u40 u45 u46 u47 u48 u49 u50 u51 u78 u79 u80 u81 u82 u83 u84 u85 u86 u87 u88 u89 u90 u91 u92 u93 u94 u95 u96 u97 u98 u99 u100 u101 u102 u103 u104 u105 u106 u107 u108 u109 u110 u111 u112 u113 u114 u115 u116 u117 u118 u119 u120 u121 u122 u123 u124 u125 u126 u127 u128 u129 u130 u131 u132 u133 u134 u135 u136 u137 u138 u139 u140 u141 u142 u143 u144 u145 u146 u147 u148 u149 u150 u151 u152 u153 u154 u155 u156 u157 u158 u159 u160 u161 u162 u163 u164 u165 u166 u167 u168 u169 u170 u171 u172 u173 u174 u175 u176 u177 u178 u179 u180 u181 u182 u183 u184 u185 u186 u187 u188 u189 u190 u191 u192 u193 u194 u195 u196 u197 u198 u199 u200 u201 u202 u203 u204 u205 u206 u207 u208 u209 u210 u211 u212 u213 u214 u215 u216 u217 u218 u219 u220 u221 u222 u223 u224 u225 u226 u227 u228 u229 u230 u231 u232 u233 u234 u235 u236 u237 u238 u239 u240 u241 u242 u243 u244 u245 u246 u247 u248 u249 u250 u251 u252 u253 u254 u255 u256 u257 u258 u259 u260 u261 u262 u263 u264 u265 u266 u267 u268 u269 u270 u271 u272 u273 u274 u275 u276 u277 u278 u279 u280 u281 u282 u283 u284 u285 u286 u287 u288 u289 u290 u291 u292 u293 u294 u295 u296 u297 u298 u299 u300 u301 : Value}
    (b1 : lk.length ≤ 4096) (hL : RdL w la lk) (hok : ∀ x ∈ lk, x.ok) (hl : ∀ x ∈ lk, x.refs.length ≤ 4096) (hB : Below w.heap.size w wq) (hmb : w.heap.size ≤ mb) (c7 : -128 ≤ fi ∧ fi ≤ 127) (c8 : -32768 ≤ fr ∧ fr ≤ 32767) (c10 : -32768 ≤ jJ ∧ jJ ≤ 32767) (hca : c.after = aftOf jOn jHeld jJ)
    (hj : wq.cell? ⟨jb, 0, none⟩ = some (.bool jOn) ∧ wq.cell? ⟨jb, 1, none⟩ = some (.bool jHeld) ∧ wq.cell? ⟨jb, 3, none⟩ = some (.int .i16 jJ)) (hjm : jb ≠ mb)
    (hE : EvIf wq S0 mb hb g ob hib c now fr fi id l es ck ids) (hU : Pu c now fr fi id l es ck hb ids) (hQ : Hp0 wq S0 pt rf inb enb lk.length AB GB RB lk) (m42 : wq.cell? ⟨mb, 42, none⟩ = some (.slice none 0 0)) (f42 : wq.frozen? ⟨mb, 42, none⟩ = false) (hmS : mb < S0) (hSW : S0 ≤ wq.heap.size) :
    Code.wp Yba.prog (cdOf 24 Yba.f3.body) (bodyPost Yba.prog Yba.f3 fun e w' => e = .returned (.bool true) ∧ Below w.heap.size w w') { tmps := #[u0, u1, u2, u3, .int .i32 now, .int .i64 c.until_, .slice la lk.length lc, u7, u8, .int .i8 fi, .int .i16 fr, u11, undef, undef, undef, undef, undef, undef, undef, undef, undef, undef, undef, .pointer (some ⟨jb, 0, none⟩), u24, u25, u26, u27, .int .i64 c.T, .int .i64 c.P, .int .i64 c.r, u31, .int .i64 id, .pointer (some ⟨mb, 0, none⟩), .slice (some ⟨hib, 0, none⟩) ids.length ids.length, u35, u36, .slice (some ⟨ob, 0, none⟩) l.length l.length, u38, u39, u40, .slice (some ⟨pt, 0, none⟩) lk.length lk.length, .slice (some ⟨rf, 0, none⟩) lk.length lk.length, .slice (some ⟨inb, 0, none⟩) lk.length lk.length, .slice (some ⟨enb, 0, none⟩) lk.length lk.length, u45, u46, u47, u48, u49, u50, u51, undef, undef, undef, undef, undef, undef, undef, undef, undef, undef, undef, undef, undef, undef, undef, undef, undef, undef, undef, undef, undef, undef, undef, undef, undef, undef, u78, u79, u80, u81, u82, u83, u84, u85, u86, u87, u88, u89, u90, u91, u92, u93, u94, u95, u96, u97, u98, u99, u100, u101, u102, u103, u104, u105, u106, u107, u108, u109, u110, u111, u112, u113, u114, u115, u116, u117, u118, u119, u120, u121, u122, u123, u124, u125, u126, u127, u128, u129, u130, u131, u132, u133, u134, u135, u136, u137, u138, u139, u140, u141, u142, u143, u144, u145, u146, u147, u148, u149, u150, u151, u152, u153, u154, u155, u156, u157, u158, u159, u160, u161, u162, u163, u164, u165, u166, u167, u168, u169, u170, u171, u172, u173, u174, u175, u176, u177, u178, u179, u180, u181, u182, u183, u184, u185, u186, u187, u188, u189, u190, u191, u192, u193, u194, u195, u196, u197, u198, u199, u200, u201, u202, u203, u204, u205, u206, u207, u208, u209, u210, u211, u212, u213, u214, u215, u216, u217, u218, u219, u220, u221, u222, u223, u224, u225, u226, u227, u228, u229, u230, u231, u232, u233, u234, u235, u236, u237, u238, u239, u240, u241, u242, u243, u244, u245, u246, u247, u248, u249, u250, u251, u252, u253, u254, u255, u256, u257, u258, u259, u260, u261, u262, u263, u264, u265, u266, u267, u268, u269, u270, u271, u272, u273, u274, u275, u276, u277, u278, u279, u280, u281, u282, u283, u284, u285, u286, u287, u288, u289, u290, u291, u292, u293, u294, u295, u296, u297, u298, u299, u300, u301, undef, undef, undef, undef, undef, undef, undef, undef, undef, undef, undef, undef, undef, undef, undef, undef, undef, undef, undef, undef, undef, undef, undef, undef, undef, undef, undef, undef, undef, undef, undef, undef, undef, undef, undef, undef, undef, undef, undef, undef, undef, undef, undef, undef, undef, undef, undef, undef, undef, undef, undef, undef, undef, undef, undef, undef, undef, undef, undef, undef, undef, undef, undef, undef, undef, undef, undef, undef, undef, undef, undef, undef, undef, undef, undef, undef, undef, undef, undef, undef, undef, undef, undef, undef, undef, undef, undef, undef, undef, undef, undef, undef, undef, undef, undef, undef, undef, undef, undef, undef, undef, undef, undef, undef, undef, undef, undef, undef, undef, undef, undef, undef, undef, undef, undef, undef, undef, undef, undef, undef, undef, undef, undef, undef, undef, undef, undef, undef, undef, undef, undef, undef, undef, undef, undef, undef, undef, undef, undef, undef, undef, undef, undef, undef, undef, undef, undef, undef, undef, undef, undef, undef, undef, undef, undef, undef, undef, undef, undef, undef, undef, undef, undef, undef, undef, undef, undef, undef, undef, undef, undef, undef, undef, undef, undef, undef, undef, undef, undef, undef, undef, undef, undef, undef, undef, undef, undef, undef, undef, undef, undef, undef, undef, undef, undef, undef, undef, undef, undef, undef, undef, undef, undef, undef, undef, undef, undef, undef, undef, undef, undef, undef, undef, undef, undef, undef, undef, undef, undef, undef, undef, undef, undef, undef, undef, undef, undef, undef, undef, undef, undef, undef, undef, undef, undef, undef, undef, undef, undef, undef, undef, undef, undef, undef, undef, undef, undef, undef, undef, undef, undef, undef, undef, undef, undef, undef, undef, undef, undef, undef, undef, undef, undef, undef, undef, undef, undef, undef, undef, undef, undef, undef, undef, undef, undef, undef, undef, undef, undef, undef, undef, undef, undef, undef, undef, undef, undef, undef, undef, undef, undef, undef, undef, undef, undef, undef, undef, undef, undef, undef, undef, undef, undef, undef, undef, undef, undef, undef, undef, undef, undef, undef, undef, undef, undef, undef, undef, undef, undef, undef, undef, undef, undef, undef, undef, undef, undef, undef, undef, undef, undef, undef, undef, undef, undef, undef], defers := [] } wq := by
  have HL : Hid (RdL w la lk) := hL
  have HO : Hid (∀ x ∈ lk, x.ok) := hok
  have HLL : Hid (∀ x ∈ lk, x.refs.length ≤ 4096) := hl
  have HB : Hid (Below w.heap.size w wq) := hB
  have HE : Hid (EvIf wq S0 mb hb g ob hib c now fr fi id l es ck ids) := hE
  have HU : Hid (Pu c now fr fi id l es ck hb ids) := hU
  have HQ : Hid (Hp0 wq S0 pt rf inb enb lk.length AB GB RB lk) := hQ
  have HJ : Hid (wq.cell? ⟨jb, 0, none⟩ = some (.bool jOn) ∧ wq.cell? ⟨jb, 1, none⟩ = some (.bool jHeld) ∧ wq.cell? ⟨jb, 3, none⟩ = some (.int .i16 jJ)) := hj
  have HM : Hid (wq.cell? ⟨mb, 42, none⟩ = some (.slice none 0 0)) := m42
  have hbl : ∀ V : World, wq.grownBy V none → Below wq.heap.size wq V := fun V hV => below_grown (Below.refl _ _) hV (Nat.le_refl _) (fun k hk => by cases hk)
  have hml : mb < wq.heap.size := by omega
  have H42 : Hid (∀ V : World, wq.grownBy V none → V.cell? ⟨mb, 42, none⟩ = some (.slice none 0 0)) := fun V hV => ((hbl V hV).cell (p := ⟨mb, 42, none⟩) hml).trans m42
  have Z42 : Hid (∀ V : World, wq.grownBy V none → V.frozen? ⟨mb, 42, none⟩ = false) := fun V hV => ((hbl V hV).frozen (p := ⟨mb, 42, none⟩) hml).trans f42
  have HBL : Hid (∀ V : World, wq.grownBy V none → Below wq.heap.size wq V) := hbl
  obtain ⟨tk, htk, hk0, hk1, hk2⟩ := info92
  have hpl : (ptrs AB lk.length).length = lk.length * 1 := by rw [ptrs_length, Nat.mul_one]
  have hpn := ptrs_news hQ
  have hp1 := ptrs_one AB lk.length
  clear hL hok hl hB hE hU hQ hj m42 f42 hbl
  conv => arg 2; whnf
  dsimp only
  go_upto_region 61 with fail
  go_cut [] from 302 to 306 (fun wx => ∃ (la2 : Option Addr) (cap lb : Nat) (C : List Value), Hid (Hp wx S0 wx.heap.size mb lb pt rf inb enb cap la2 AB GB RB lk C) ∧ Hid (Ev wx S0 mb hb g ob hib c now fr fi id l es ck ids) ∧ Hid (En wx enb lk.length ((lk.map ackOf).map Ack1.nl)) ∧ Hid (Below w.heap.size w wx) ∧ Hid (wx.cell? ⟨jb, 0, none⟩ = some (.bool jOn) ∧ wx.cell? ⟨jb, 1, none⟩ = some (.bool jHeld) ∧ wx.cell? ⟨jb, 3, none⟩ = some (.int .i16 jJ)))
  case rest =>
    obtain ⟨la2, cap, lb, C, x1, x2, x3, x4, x5⟩ := hcut
    rename_i aK
    exact aK _ _ (t62 b1 HL.out HO.out HLL.out x4.out hmb c7 c8 c10 hca x5.out.1 x5.out.2.1 x5.out.2.2 x2.out HU.out x1.out x3.out)
  case first =>
    go_wp2_with (at_builtin; refine wpList_append_own_at _ rfl _ _ 60 rfl wq.heap.size 92 tk _ 1 8 Yba.underlying60 htk hk0 hk1 hk2 rfl (by omega) (.slice none 0 0) 0 [] rfl (World.ownsRow_nil _ _ _ _) ⟨pt, 0, none⟩ lk.length lk.length (ptrs AB lk.length) rfl hpl hpn hp1 (by simp [maxLen]; omega) (by omega) (Nat.le_refl _) ?_; intro v' w' ho hgr hnil hat; rw [Nat.zero_add, List.nil_append] at ho; obtain ⟨a2, c2, hv2⟩ := own_slice ho; subst hv2; have e42 := H42.out w' hgr; have z42 := Z42.out w' hgr; have hms : mb < w'.heap.size := Nat.lt_of_lt_of_le hml hgr.size)
    go_meet
    case rel =>
      obtain ⟨la2, cap, lb, C, hHp⟩ := hp_of HQ.out hmS hSW ho hgr HM.out
      have hbb := HBL.out w' hgr
      have hso : ∀ b, b ≠ mb → (w'.setCell ⟨mb, 42, none⟩ (.slice a2 lk.length c2)).heap[b]? = w'.heap[b]? := fun b hb' => Go.Deep.blk_setCell_other _ _ _ _ hb'
      have hcc : ∀ b o v, b ≠ mb → wq.cell? ⟨b, o, none⟩ = some v → (w'.setCell ⟨mb, 42, none⟩ (.slice a2 lk.length c2)).cell? ⟨b, o, none⟩ = some v := fun b o v h2 h3 => (World.cell?_of_block (a := ⟨b, o, none⟩) (hso b h2)).trans (cell_mono hbb h3)
      have hpq := HQ.out.pq
      refine ⟨la2, cap, lb, C, hHp, ?_, ?_, ?_, ?_⟩
      · refine HE.out _ (fun b h1 h2 => (hso b h2).trans (hbb.block b (by omega))) (fun o ho' => ?_) (by simpa using z42) (by simpa using Nat.le_trans hSW hbb.size)
        rw [World.cell?_setCell_other (h := by intro e; injection e with _ e2; omega)]
        exact hbb.cell (p := ⟨mb, o, none⟩) hml
      · have he := en_of HQ.out
        refine ⟨fun j hj => ?_, fun j v hj => ?_, he.len⟩
        · have h9 := there_below hbb hpq.2.2.2.2 he.th j hj
          exact ⟨by rw [World.cell?_of_block (a := ⟨enb, 0 + j, none⟩) (hso enb (by omega))]; exact h9.1, by rw [World.frozen?_of_block (a := ⟨enb, 0 + j, none⟩) (hso enb (by omega))]; exact h9.2⟩
        · exact hcc _ _ _ (by omega) (he.rd j v hj)
      · exact (HB.out.trans (hbb.mono HB.out.size)).setCell (by show w.heap.size ≤ mb; exact hmb) _
      · exact ⟨hcc _ _ _ hjm HJ.out.1, hcc _ _ _ hjm HJ.out.2.1, hcc _ _ _ hjm HJ.out.2.2⟩
end Go.Proofs.Ybulkdvuo
