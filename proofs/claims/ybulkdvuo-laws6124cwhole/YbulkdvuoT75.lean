import Derived.Test.YbulkdvuoT103
namespace Go.Proofs.Ybulkdvuo
open Go.RowKit
set_option linter.unusedSimpArgs false
theorem en_kept {A : List Ack1} {k : Nat} {a : Ack1} (N : List Nat) (h : A[k]? = some a) : N ++ (A.drop k).map Ack1.nl = (N ++ [a.nl]) ++ (A.drop (k + 1)).map Ack1.nl := by
  rw [drop_at h]; simp
theorem en_set {A : List Ack1} {k : Nat} {a : Ack1} {N : List Nat} (m : Nat) (h : A[k]? = some a) (hN : N.length = k) : (N ++ (A.drop k).map Ack1.nl).set k m = (N ++ [m]) ++ (A.drop (k + 1)).map Ack1.nl := by
  rw [drop_at h, List.set_append_right _ _ (by omega)]; simp [hN]
theorem rng_next (K : List Nat) {k q : Nat} (h : k ≤ q) : K ++ List.range' k (q + 1 - k) = (K ++ List.range' k (q - k)) ++ [q] := by
  rw [show q + 1 - k = (q - k) + 1 by omega, List.range'_concat, List.append_assoc]
  simp; omega
theorem Rw6.bound {W : World} {L0 eb ec : Nat} {kv : Value} {GV : List (Gap1 × Value)} {K : List Nat} (h : Rw6 W L0 eb ec kv GV K) {V : World} {v : Value} (hg : W.grownBy V v.ownBlock) (ho : v = kv ∨ v.ownBlock = some eb) : Below L0 W V := by
  have hL : L0 ≤ W.heap.size := by have := h.eo.lt eb rfl; omega
  refine below_grown (Below.refl _ _) hg hL (fun q hq => ?_)
  rcases ho with e | e
  · rw [e] at hq; exact (h.ko.lt q hq).1
  · rw [e] at hq; injection hq with hq; rw [← hq]; exact (h.eo.lt eb rfl).1
set_option maxRecDepth 40000 in
set_option maxHeartbeats 8000000 in
theorem t75 {la la2 : Option Addr} {lk : List In1} {lc S0 L0 mb hb g ob hib lb pt rf inb enb cap eb0 pb : Nat} {c : Pm} {now fr fi id : Int} {l : List Int} {es : Array MapEntry} {ck : Nat} {ids : List Tri} {C : List Value} {AB GB RB : Nat → Nat} {w wq : World} {u0 u1 u2 u3 u4 u7 u8 u11 u23 u24 u25 u26 u27 u30 u31 u35 u36 u38 u39 u40 u45 u46 u47 u48 u49 u50 u51 u54 u78 u79 u80 u81 u82 u83 u84 u85 u86 u87 u88 u89 u90 u91 u92 u93 u94 u95 u96 u97 u98 u99 u100 u101 u102 u103 u104 u105 u106 u107 u108 u109 u110 u111 u112 u113 u114 u115 u116 u117 u118 u119 u120 u121 u122 u123 u124 u125 u126 u127 u128 u129 u130 u131 u132 u133 u134 u135 u136 u137 u138 u139 u140 u141 u142 u143 u144 u145 u146 u147 u148 u149 u150 u151 u152 u153 u154 u155 u156 u157 u158 u159 u160 u161 u162 u163 u164 u165 u166 u167 u168 u169 u170 u171 u172 u173 u174 u175 u176 u177 u178 u179 u180 u181 u182 u183 u184 u185 u186 u187 u188 u189 u190 u191 u192 u193 u194 u195 u196 u197 u198 u199 u200 u201 u202 u203 u204 u205 u206 u207 u208 u209 u210 u211 u212 u213 u214 u215 u216 u217 u218 u219 u220 u221 u222 u223 u224 u225 u226 u227 u228 u229 u230 u231 u232 u233 u234 u235 u236 u237 u238 u239 u240 u241 u242 u243 u244 u245 u246 u247 u248 u249 u250 u251 u252 u253 u254 u255 u256 u257 u258 u259 u260 u261 u262 u263 u264 u265 u266 u267 u268 u269 u270 u271 u272 u273 u274 u275 u276 u277 u278 u279 u280 u281 u282 u283 u284 u285 u286 u287 u288 u289 u290 u291 u292 u293 u294 u295 u296 u297 u298 u299 u300 u301 u302 u303 u304 u305 u306 u307 u308 u309 u310 u311 u312 u313 u314 u315 u316 u317 u318 u319 u320 u321 u322 u323 u324 u325 u326 u327 u328 u329 u330 u331 u332 : Value}
    (b1 : lk.length ≤ 4096) (hL : RdL w la lk) (hok : ∀ x ∈ lk, x.ok) (hl : ∀ x ∈ lk, x.refs.length ≤ 4096) (hB : Below w.heap.size w wq) (hmb : w.heap.size ≤ mb) (c7 : -128 ≤ fi ∧ fi ≤ 127) (c8 : -32768 ≤ fr ∧ fr ≤ 32767)
    (hE : Ev wq S0 mb hb g ob hib c now fr fi id l es ck ids) (hU : Pu c now fr fi id l es ck hb ids) (hH : Hp wq S0 L0 mb lb pt rf inb enb cap la2 AB GB RB lk C) (hN : En wq enb lk.length ((lk.map ackOf).map Ack1.nl)) (hR : Rw6 wq L0 eb0 1 (.slice none 0 0) [] []) (hpb : wq.rangeAt pb 0 preCells) (hpl : pb < L0 ∧ pb ≠ enb) :
    Code.wp Yba.prog (cdOf 33 Yba.f3.body) (bodyPost Yba.prog Yba.f3 fun e w' => e = .returned (.bool true) ∧ Below w.heap.size w w') { tmps := #[u0, u1, u2, u3, u4, .int .i64 c.until_, .slice la lk.length lc, u7, u8, .int .i8 fi, .int .i16 fr, u11, undef, undef, undef, undef, undef, undef, undef, undef, undef, undef, undef, u23, u24, u25, u26, u27, .int .i64 c.T, .int .i64 c.P, u30, u31, .int .i64 id, .pointer (some ⟨mb, 0, none⟩), .slice (some ⟨hib, 0, none⟩) ids.length ids.length, u35, u36, .slice (some ⟨ob, 0, none⟩) l.length l.length, u38, u39, u40, .slice (some ⟨pt, 0, none⟩) lk.length lk.length, .slice (some ⟨rf, 0, none⟩) lk.length lk.length, .slice (some ⟨inb, 0, none⟩) lk.length lk.length, .slice (some ⟨enb, 0, none⟩) lk.length lk.length, u45, u46, u47, u48, u49, u50, u51, .int .i64 (Rw c.r c.P), .int .i64 c.closed, u54, .int .i64 c.after, .pointer (some ⟨pb, 0, none⟩), .slice (some ⟨eb0, 0, none⟩) 1 1, .slice none 0 0, undef, undef, undef, undef, undef, undef, undef, undef, undef, undef, undef, undef, undef, undef, undef, undef, undef, undef, undef, u78, u79, u80, u81, u82, u83, u84, u85, u86, u87, u88, u89, u90, u91, u92, u93, u94, u95, u96, u97, u98, u99, u100, u101, u102, u103, u104, u105, u106, u107, u108, u109, u110, u111, u112, u113, u114, u115, u116, u117, u118, u119, u120, u121, u122, u123, u124, u125, u126, u127, u128, u129, u130, u131, u132, u133, u134, u135, u136, u137, u138, u139, u140, u141, u142, u143, u144, u145, u146, u147, u148, u149, u150, u151, u152, u153, u154, u155, u156, u157, u158, u159, u160, u161, u162, u163, u164, u165, u166, u167, u168, u169, u170, u171, u172, u173, u174, u175, u176, u177, u178, u179, u180, u181, u182, u183, u184, u185, u186, u187, u188, u189, u190, u191, u192, u193, u194, u195, u196, u197, u198, u199, u200, u201, u202, u203, u204, u205, u206, u207, u208, u209, u210, u211, u212, u213, u214, u215, u216, u217, u218, u219, u220, u221, u222, u223, u224, u225, u226, u227, u228, u229, u230, u231, u232, u233, u234, u235, u236, u237, u238, u239, u240, u241, u242, u243, u244, u245, u246, u247, u248, u249, u250, u251, u252, u253, u254, u255, u256, u257, u258, u259, u260, u261, u262, u263, u264, u265, u266, u267, u268, u269, u270, u271, u272, u273, u274, u275, u276, u277, u278, u279, u280, u281, u282, u283, u284, u285, u286, u287, u288, u289, u290, u291, u292, u293, u294, u295, u296, u297, u298, u299, u300, u301, u302, u303, u304, u305, u306, u307, u308, u309, u310, u311, u312, u313, u314, u315, u316, u317, u318, u319, u320, u321, u322, u323, u324, u325, u326, u327, u328, u329, u330, u331, u332, undef, undef, undef, undef, undef, undef, undef, undef, undef, undef, undef, undef, undef, undef, undef, undef, undef, undef, undef, undef, undef, undef, undef, undef, undef, undef, undef, undef, undef, undef, undef, undef, undef, undef, undef, undef, undef, undef, undef, undef, undef, undef, undef, undef, undef, undef, undef, undef, undef, undef, undef, undef, undef, undef, undef, undef, undef, undef, undef, undef, undef, undef, undef, undef, undef, undef, undef, undef, undef, undef, undef, undef, undef, undef, undef, undef, undef, undef, undef, undef, undef, undef, undef, undef, undef, undef, undef, undef, undef, undef, undef, undef, undef, undef, undef, undef, undef, undef, undef, undef, undef, undef, undef, undef, undef, undef, undef, undef, undef, undef, undef, undef, undef, undef, undef, undef, undef, undef, undef, undef, undef, undef, undef, undef, undef, undef, undef, undef, undef, undef, undef, undef, undef, undef, undef, undef, undef, undef, undef, undef, undef, undef, undef, undef, undef, undef, undef, undef, undef, undef, undef, undef, undef, undef, undef, undef, undef, undef, undef, undef, undef, undef, undef, undef, undef, undef, undef, undef, undef, undef, undef, undef, undef, undef, undef, undef, undef, undef, undef, undef, undef, undef, undef, undef, undef, undef, undef, undef, undef, undef, undef, undef, undef, undef, undef, undef, undef, undef, undef, undef, undef, undef, undef, undef, undef, undef, undef, undef, undef, undef, undef, undef, undef, undef, undef, undef, undef, undef, undef, undef, undef, undef, undef, undef, undef, undef, undef, undef, undef, undef, undef, undef, undef, undef, undef, undef, undef, undef, undef, undef, undef, undef, undef, undef, undef, undef, undef, undef, undef, undef, undef, undef, undef, undef, undef, undef, undef, undef, undef, undef, undef, undef, undef, undef, undef, undef, undef, undef, undef, undef, undef, undef, undef, undef, undef, undef, undef, undef, undef, undef, undef, undef, undef, undef, undef, undef, undef, undef, undef, undef, undef, undef, undef, undef, undef, undef, undef, undef, undef, undef, undef, undef, undef, undef, undef], defers := [] } wq := by
  have HL : Hid (RdL w la lk) := hL
  have HO : Hid (∀ x ∈ lk, x.ok) := hok
  have HLL : Hid (∀ x ∈ lk, x.refs.length ≤ 4096) := hl
  have HB : Hid (Below w.heap.size w wq) := hB
  have HE : Hid (Ev wq S0 mb hb g ob hib c now fr fi id l es ck ids) := hE
  have HU : Hid (Pu c now fr fi id l es ck hb ids) := hU
  have HH : Hid (Hp wq S0 L0 mb lb pt rf inb enb cap la2 AB GB RB lk C) := hH
  have HN : Hid (En wq enb lk.length ((lk.map ackOf).map Ack1.nl)) := hN
  have HR : Hid (Rw6 wq L0 eb0 1 (.slice none 0 0) [] []) := hR
  have HPB : Hid (wq.rangeAt pb 0 preCells) := hpb
  have hSe : S0 ≤ enb := by have := hH.pq; omega
  have hSL : S0 ≤ L0 := by have := hH.pq; omega
  have hel : enb < L0 := by have := hH.pq; omega
  have hmS : mb < S0 := hH.pl.1
  have hLs : L0 ≤ wq.heap.size := hH.pl.2
  clear hL hok hl hB hE hU hH hN hR hpb
  conv => arg 2; whnf
  go_upto_block 10 with fail
  go_cut [57, 58] from 333 to 442 (fun ev kv wx => ∃ (eb ec : Nat) (GV : List (Gap1 × Value)) (K N : List Nat), ev = .slice (some ⟨eb, 0, none⟩) (1 + GV.length) ec ∧ Hid (En wx enb lk.length N) ∧ Hid (Rw6 wx L0 eb ec kv GV K) ∧ Hid (gaps c 0 (lk.map ackOf) = (GV.map (·.1), K, N)) ∧ Hid (Kp wq wx L0 enb))
  case rest =>
    obtain ⟨eb, ec, GV, K, N, rfl, x1, x2, x3, x4⟩ := hcut
    rename_i aK
    exact aK _ _ (t103 b1 HL.out HO.out HLL.out (HB.out.trans (x4.out.low (by omega) (by omega))) hmb (HE.out.below (x4.out.low hSe hSL)) HU.out (HH.out.keep x4.out.keep x4.out.size) x1.out x2.out x3.out (fun j v hj => (World.cell?_of_block (a := ⟨pb, 0 + j, none⟩) (x4.out.keep pb hpl.1 hpl.2)).trans (HPB.out j v hj)))
  case first =>
    go_wp2_with fail
    obtain ⟨ti, hti, hz0, hz1, hz2⟩ := info3
    obtain ⟨tm, htm, hm0, hm1, hm2⟩ := info86
    obtain ⟨tg, htg, hg0, hg1, hg2⟩ := info107
    go_loopw [57, 58, 59] (fun ev kv iv wr => ∃ (k eb ec : Nat) (GV : List (Gap1 × Value)) (K N : List Nat), k ≤ lk.length ∧ GV.length ≤ k ∧ K.length ≤ k ∧ iv = .int .i64 k ∧ ev = .slice (some ⟨eb, 0, none⟩) (1 + GV.length) ec ∧ Hid (Sofar c (lk.map ackOf) k (GV.map (·.1)) K N) ∧ Hid (En wr enb lk.length (N ++ ((lk.map ackOf).drop k).map Ack1.nl)) ∧ Hid (Rw6 wr L0 eb ec kv GV K) ∧ Hid (Kp wq wr L0 enb)) (fun _ _ iv _ => lk.length - (intOf iv).toNat)
    case atStart => exact ⟨0, eb0, 1, [], [], [], by omega, Nat.le_refl _, Nat.le_refl _, rfl, rfl, Sofar.zero _ _, by simpa using HN, HR, Kp.refl _ _ _⟩
    case round =>
      clear HN HR
      obtain ⟨k, eb, ec, GV, K, N, hk, hgl, hKl, rfl, rfl, HS, HN, HR, HK⟩ := hrel
      by_cases hkn : k < lk.length
      · obtain ⟨lab, lo, rfl, hlab, hlr⟩ := HL.out (by omega)
        obtain ⟨x, hx⟩ : ∃ x, lk[k]? = some x := ⟨_, List.getElem?_eq_getElem hkn⟩
        have hxo := HO.out x (List.mem_of_getElem? hx)
        have hxl := HLL.out x (List.mem_of_getElem? hx)
        have hBw : Below w.heap.size w wr := HB.out.trans (HK.out.low (by omega) (by omega))
        obtain ⟨e0, _, _⟩ := three_at (rangeAt_below hBw (by omega) (flatAt (f := In1.cells) (n := 3) (fun _ _ => rfl) hlr hx))
        have hH := HH.out.keep HK.out.keep HK.out.size
        have g1 := hH.rfc k x hx
        have g2 := hH.inc k x hx
        have hrr := hH.rr k x hx
        have ha0 : (lk.map ackOf)[k]? = some (ackOf x) := by rw [List.getElem?_map, hx]; rfl
        have hal : (lk.map ackOf).length = lk.length := by simp
        have hnl0 : (ackOf x).nl ≤ x.refs.length := Nat.min_le_right _ _
        have hRl : x.refs.length = (x.refs.map m4).length := by simp
        obtain ⟨RR, hRR⟩ : ∃ RR, x.refs.map m4 = RR := ⟨_, rfl⟩
        obtain ⟨nl, hnl⟩ : ∃ nl, (ackOf x).nl = nl := ⟨_, rfl⟩
        obtain ⟨J, hJ⟩ : ∃ J, x.J = J := ⟨_, rfl⟩
        have ha : (lk.map ackOf)[k]? = some ⟨J, RR, nl⟩ := by rw [ha0, ← hRR, ← hnl, ← hJ]; rfl
        have HA : Hid ((lk.map ackOf)[k]? = some ⟨J, RR, nl⟩) := ha
        have hJb := hxo.1
        rw [hRR] at hrr hRl
        rw [hnl] at g2 hnl0
        rw [hRl] at g1 hnl0 hxl
        rw [hJ] at e0 hJb
        clear ha ha0 hxo hlr hH hRR hnl hJ hRl hx
        have HRR : Hid (wr.rangeAt (RB k) 0 (tcs RR)) := hrr
        have HBW : Hid (Below w.heap.size w wr) := hBw
        have hE := HE.out.below (HK.out.low hSe hSL)
        have HEV : Hid (Ev wr S0 mb hb g ob hib c now fr fi id l es ck ids) := hE
        obtain ⟨T1, T2⟩ := HU.out.hT
        obtain ⟨P1, P2⟩ := HU.out.hP
        obtain ⟨R1, R2⟩ := Rw_bd HU.out.hr HU.out.hP
        obtain ⟨J1, J2⟩ := hJb
        obtain ⟨w1, w2⟩ := jT_bd ⟨J1, J2⟩ HU.out.hT
        have hsz : wq.heap.size ≤ wr.heap.size := HK.out.size
        have k0 : (0 : Int) ≤ (k : Int) := by omega
        have k1 : (k : Int) < (lk.length : Int) := by omega
        clear hrr hBw hE
        by_cases hs : c.until_ < J * c.T + Rw c.r c.P + c.P / 2
        · go_upto_block 12 with fail
          have HG : Hid (gaps c 0 (lk.map ackOf) = (GV.map (·.1), K ++ List.range' k (lk.length - k), N ++ ((lk.map ackOf).drop k).map Ack1.nl)) := by
            have := HS.out.stop HA.out hs
            rwa [hal] at this
          clear e0 g1 g2
          generalize hX : wr = wX at *
          clear hX
          go_wp2_with fail
          go_loopw [58, 62] (fun kv qv wr => ∃ q : Nat, k ≤ q ∧ q ≤ lk.length ∧ qv = .int .i64 q ∧ Hid (En wr enb lk.length (N ++ ((lk.map ackOf).drop k).map Ack1.nl)) ∧ Hid (Rw6 wr L0 eb ec kv GV (K ++ List.range' k (q - k))) ∧ Hid (Kp wq wr L0 enb)) (fun _ qv _ => lk.length - (intOf qv).toNat)
          case atStart => exact ⟨k, by omega, by omega, rfl, HN, by rw [Nat.sub_self]; simpa using HR, HK⟩
          case round =>
            clear HN HR HK
            obtain ⟨q, hq1, hq2, rfl, HN, HR, HK⟩ := hrel
            by_cases hqn : q < lk.length
            · have hKQl : (K ++ List.range' k (q - k)).length ≤ 8192 := by simp; omega
              have hKn := rng_next K hq1
              have HKQ : Hid (K ++ List.range' k (q + 1 - k) = (K ++ List.range' k (q - k)) ++ [q]) := hKn
              clear hKn
              generalize K ++ List.range' k (q - k) = KQ at HR hKQl HKQ
              have hBA : Below wr.heap.size wr (wr.alloc (.cells #[.int .i64 (q : Nat)] 3)) := (Below.refl _ _).alloc (Nat.le_refl _) _
              have HRA : Hid (Rw6 (wr.alloc (.cells #[.int .i64 (q : Nat)] 3)) L0 eb ec u58 GV KQ) := HR.out.below hBA (Nat.le_refl _)
              have hLw : L0 ≤ wr.heap.size := by have := HR.out.eo.lt eb rfl; omega
              go_wp2_with (at_builtin; refine wpList_append_own_at _ rfl _ _ 48 rfl L0 3 ti _ 1 8 Yba.underlying48 hti hz0 hz1 hz2 rfl (by omega) u58 (KQ).length ((KQ).map nv) rfl HRA.out.ko ⟨wr.heap.size, 0, none⟩ 1 1 [.int .i64 (q : Nat)] rfl rfl (World.news_of_block (heap_alloc_new wr _)) (by simp [Value.oneCell']) (by simp [maxLen]; omega) (by omega) (by simp; omega) ?_; intro v' w' ho hgr hnil hat)
              have hB' : Below L0 wr w' := (hBA.mono hLw).trans (HRA.out.bound (v := u58) hgr (Or.inl rfl))
              have HRn : Hid (Rw6 w' L0 eb ec v' GV ((KQ) ++ [q])) := HRA.out.push hgr ho hat
              have HNn := HN.out.below hB' hel
              have HKn : Hid (Kp wq w' L0 enb) := HK.out.below hB' (Nat.le_refl _)
              go_roundw
              case rel => exact ⟨q + 1, by omega, by omega, by go_num, HNn, by rw [HKQ.out]; exact HRn, HKn⟩
              case measure => simp [intOf]; omega
            · obtain rfl : q = lk.length := by omega
              go_wp2_with fail
              go_meet
              case rel => exact ⟨eb, ec, GV, _, _, rfl, HN, HR, HG, HK⟩
        · by_cases hc : J ≤ c.closed
          · have HS1 : Hid (Sofar c (lk.map ackOf) (k + 1) (GV.map (·.1)) (K ++ [k]) (N ++ [nl])) := HS.out.kept HA.out hs hc
            have HEN : Hid (N ++ ((lk.map ackOf).drop k).map Ack1.nl = (N ++ [nl]) ++ ((lk.map ackOf).drop (k + 1)).map Ack1.nl) := en_kept N HA.out
            have hBA : Below wr.heap.size wr (wr.alloc (.cells #[.int .i64 (k : Nat)] 3)) := (Below.refl _ _).alloc (Nat.le_refl _) _
            have HRA : Hid (Rw6 (wr.alloc (.cells #[.int .i64 (k : Nat)] 3)) L0 eb ec u58 GV K) := HR.out.below hBA (Nat.le_refl _)
            have hLw : L0 ≤ wr.heap.size := by have := HR.out.eo.lt eb rfl; omega
            go_wp2_with (at_builtin; refine wpList_append_own_at _ rfl _ _ 48 rfl L0 3 ti _ 1 8 Yba.underlying48 hti hz0 hz1 hz2 rfl (by omega) u58 (K).length ((K).map nv) rfl HRA.out.ko ⟨wr.heap.size, 0, none⟩ 1 1 [.int .i64 (k : Nat)] rfl rfl (World.news_of_block (heap_alloc_new wr _)) (by simp [Value.oneCell']) (by simp [maxLen]; omega) (by omega) (by simp; omega) ?_; intro v' w' ho hgr hnil hat)
            have hB' : Below L0 wr w' := (hBA.mono hLw).trans (HRA.out.bound (v := u58) hgr (Or.inl rfl))
            have HRn : Hid (Rw6 w' L0 eb ec v' GV ((K) ++ [k])) := HRA.out.push hgr ho hat
            have HNn := HN.out.below hB' hel
            have HKn : Hid (Kp wq w' L0 enb) := HK.out.below hB' (Nat.le_refl _)
            go_roundw
            case rel => exact ⟨k + 1, eb, ec, GV, K ++ [k], N ++ [nl], by omega, by omega, by simp; omega, by go_num, rfl, HS1, by rw [← HEN.out]; exact HNn, HRn, HKn⟩
            case measure => simp [intOf]; omega
          · go_upto_block 14 with fail
            clear e0 g1 g2
            have HRK : Hid (enb < RB k) := (HH.out.pr k hkn).1
            have hhib : hib < S0 := HEV.out.pl.2.2.1
            generalize hX : wr = wX at *
            clear hX
            go_cut [64] from 382 to 396 (fun v wx => v = .int .i64 (adv c.held RR nl : Nat) ∧ Hid (Below wX.heap.size wX wx))
            case first =>
              go_wp2_with fail
              go_loopw [64] (fun v wr => ∃ m : Nat, m ≤ RR.length ∧ v = .int .i64 m ∧ Hid (adv c.held RR nl = adv c.held RR m) ∧ Hid (Below wX.heap.size wX wr)) (fun v _ => RR.length - (intOf v).toNat)
              case atStart => exact ⟨nl, hnl0, rfl, rfl, Below.refl _ _⟩
              case round =>
                obtain ⟨m, hm, rfl, HV, HBx⟩ := hrel
                by_cases hmn : m < RR.length
                · obtain ⟨t, ht⟩ : ∃ t, RR[m]? = some t := ⟨_, List.getElem?_eq_getElem hmn⟩
                  obtain ⟨r0, r1, r2⟩ := tcs_at (range_mono HBx.out HRR.out) ht
                  have hIds : IdsAt wr hib 0 ids := idsAt_of (range_mono HBx.out HEV.out.hid)
                  have hhw : hib < wr.heap.size := by have := HEV.out.pl.2.2.2; have := HBx.out.size; omega
                  have htg : RR[m] = t := by have := List.getElem?_eq_getElem hmn; rw [ht] at this; injection this with this; exact this.symm
                  have m0 : (0 : Int) ≤ (m : Int) := by omega
                  have m1 : (m : Int) < (RR.length : Int) := by omega
                  by_cases hmem : t ∈ c.held
                  · have hcn : ids.contains (t.1, t.2.1, t.2.2) = true := by
                      have := (HU.out.mem t).1 hmem
                      simpa using this
                    have HX : Hid (adv c.held RR m = adv c.held RR (m + 1)) := adv_step c.held RR m hmn (by rw [htg]; exact hmem)
                    clear hmem htg
                    go_wp2_with fail
                    refine (clacks_any hib ids.length ids t.1 t.2.1 t.2.2 _ HU.out.b4 hhw hIds).mono ?_
                    rintro e w1 ⟨rfl, hb1⟩
                    rw [hcn]
                    have HB1 : Hid (Below wX.heap.size wX w1) := HBx.out.trans (hb1.mono HBx.out.size)
                    go_wp2_with fail
                    go_roundw
                    case rel => exact ⟨m + 1, by omega, by go_num, HV.out.trans HX.out, HB1⟩
                    case measure => simp [intOf]; omega
                  · have hcn : ids.contains (t.1, t.2.1, t.2.2) = false := by
                      have h9 : t ∉ ids := fun h => hmem ((HU.out.mem t).2 h)
                      simpa using h9
                    have HX : Hid (adv c.held RR m = m) := adv_stop c.held RR m hmn (by rw [htg]; exact hmem)
                    clear hmem htg
                    go_wp2_with fail
                    refine (clacks_any hib ids.length ids t.1 t.2.1 t.2.2 _ HU.out.b4 hhw hIds).mono ?_
                    rintro e w1 ⟨rfl, hb1⟩
                    rw [hcn]
                    have HB1 : Hid (Below wX.heap.size wX w1) := HBx.out.trans (hb1.mono HBx.out.size)
                    go_wp2_with fail
                    go_meet
                    case rel => exact ⟨by rw [HV.out, HX.out], HB1⟩
                · have hmi : ¬ ((m : Int) < (RR.length : Int)) := by omega
                  have HX : Hid (adv c.held RR m = m) := adv_end c.held RR m (by omega)
                  go_wp2_with fail
                  go_meet
                  case rel => exact ⟨by rw [HV.out, HX.out], HBx⟩
            case rest =>
              obtain ⟨rfl, HBc⟩ := hcut
              have hxz : wX.heap.size ≤ wc.heap.size := HBc.out.size
              have HRc : Hid (Rw6 wc L0 eb ec u58 GV K) := HR.out.below HBc.out (Nat.le_refl _)
              have hLx : L0 ≤ wX.heap.size := by omega
              have HNc : Hid (En wc enb lk.length (N ++ ((lk.map ackOf).drop k).map Ack1.nl)) := HN.out.below HBc.out (by omega)
              have HKc : Hid (Kp wq wc L0 enb) := HK.out.below HBc.out hLx
              have HEc : Hid (Ev wc S0 mb hb g ob hib c now fr fi id l es ck ids) := HEV.out.below (HBc.out.mono (by omega))
              have HRRc : Hid (wc.rangeAt (RB k) 0 (tcs RR)) := range_mono HBc.out HRR.out
              have hml : adv c.held RR nl ≤ RR.length := by
                unfold adv
                have := skipIn_le c.held (RR.drop nl)
                rw [List.length_drop] at this; omega
              have HSN : (lackedFrom c.held RR (adv c.held RR nl) = [] → Hid (Sofar c (lk.map ackOf) (k + 1) (GV.map (·.1)) K (N ++ [adv c.held RR nl]))) := fun h => HS.out.none HA.out hs hc h
              have HSM : (lackedFrom c.held RR (adv c.held RR nl) ≠ [] → Hid (Sofar c (lk.map ackOf) (k + 1) (GV.map (·.1) ++ (if c.after < J then [⟨c.opn J, c.ff J, J, lackedFrom c.held RR (adv c.held RR nl)⟩] else [])) (K ++ [k]) (N ++ [adv c.held RR nl]))) := fun h => HS.out.more HA.out hs hc h
              generalize adv c.held RR nl = m0 at *
              have hNl : N.length = k := HS.out.2.1
              have hes := en_set m0 HA.out hNl
              have HNS : Hid (En (wc.setCell ⟨enb, k, none⟩ (.int .i64 m0)) enb lk.length ((N ++ [m0]) ++ ((lk.map ackOf).drop (k + 1)).map Ack1.nl)) := by
                have h9 := HNc.out.set hkn m0
                rw [hes] at h9; exact h9
              have gth := HNc.out.th k (by omega)
              rw [Nat.zero_add] at gth
              obtain ⟨uo, huo⟩ := Option.isSome_iff_exists.1 gth.1
              have fuo := gth.2
              have i0 : (0 : Int) ≤ (m0 : Int) := by omega
              have i1 : (m0 : Int) ≤ (RR.length : Int) := by omega
              have HSR : Hid (Rw6 (wc.setCell ⟨enb, k, none⟩ (.int .i64 m0)) L0 eb ec u58 GV K ∧ Kp wq (wc.setCell ⟨enb, k, none⟩ (.int .i64 m0)) L0 enb ∧ Ev (wc.setCell ⟨enb, k, none⟩ (.int .i64 m0)) S0 mb hb g ob hib c now fr fi id l es ck ids ∧ (wc.setCell ⟨enb, k, none⟩ (.int .i64 m0)).rangeAt (RB k) 0 (tcs RR)) := by
                refine ⟨HRc.out.move (fun b h1 _ => Go.Deep.blk_setCell_other _ _ _ _ (by show b ≠ enb; omega)), HKc.out.set k _, HEc.out.below ((Below.refl _ _).setCell hSe _), fun j v hj => ?_⟩
                have := HRK.out
                exact (World.cell?_of_block (a := ⟨RB k, 0 + j, none⟩) (Go.Deep.blk_setCell_other _ _ _ _ (by show RB k ≠ enb; omega))).trans (HRRc.out j v hj)
              clear HS HA gth hes HRc HNc HKc HEc HRRc HR HN HK HEV HRR HBW HBc
              go_upto_region 93 with fail
              clear huo fuo
              refine gen_wp (fun W => Hid (Rw6 W L0 eb ec u58 GV K) ∧ Hid (Kp wq W L0 enb) ∧ Hid (Ev W S0 mb hb g ob hib c now fr fi id l es ck ids) ∧ Hid (W.rangeAt (RB k) 0 (tcs RR)) ∧ Hid (En W enb lk.length ((N ++ [m0]) ++ ((lk.map ackOf).drop (k + 1)).map Ack1.nl))) ⟨HSR.out.1, HSR.out.2.1, HSR.out.2.2.1, HSR.out.2.2.2, HNS⟩ ?_
              rintro wY ⟨HR, HK, HEV, HRR, HN⟩
              clear HSR HNS hxz hLx
              go_cut [403, 404, 405] from 401 to 405 (fun s n i wx => n = .int .i64 (RR.length - m0 : Nat) ∧ i = .int .i64 0 ∧ wx = wY ∧ (m0 < RR.length → ∃ cp, s = .slice (some ⟨RB k, m0 * 3, none⟩) (RR.length - m0) cp))
              case first =>
                by_cases hme : m0 = RR.length
                · subst hme
                  go_wp2_with fail
                  go_meet
                  case rel => exact ⟨by simp, rfl, rfl, fun h => by omega⟩
                · have hne : ¬ (RR.length = m0) := by omega
                  have hlt : m0 < RR.length := by omega
                  go_wp2_with fail
                  go_meet
                  case rel => exact ⟨by first | rfl | (simp; omega), rfl, rfl, fun _ => ⟨_, rfl⟩⟩
              case rest =>
                obtain ⟨rfl, rfl, hwy, hsl⟩ := hcut
                subst hwy
                generalize hY : wc = wY at *
                clear hY
                have hcsz : L0 ≤ wY.heap.size := by have := HR.out.eo.lt eb rfl; omega
                go_upto_block 16 with fail
                go_cut [65] from 405 to 416 (fun v wx => Hid (wx.ownsRow wY.heap.size 86 3 v (lackedFrom c.held RR m0).length (tcs (lackedFrom c.held RR m0))) ∧ Hid (Below wY.heap.size wY wx))
                case first =>
                  by_cases hme : m0 = RR.length
                  · have HLE : Hid (lackedFrom c.held RR m0 = []) := by
                      show _ = _
                      unfold lackedFrom; rw [List.drop_of_length_le (by omega)]; rfl
                    have hz : ¬ ((0 : Int) < ((RR.length - m0 : Nat) : Int)) := by omega
                    clear hme
                    go_wp2_with fail
                    go_loopw [65, 405] (fun acc i wr => acc = .slice none 0 0 ∧ i = .int .i64 0 ∧ wr = wY) (fun _ _ _ => 0)
                    case atStart => exact ⟨rfl, rfl, rfl⟩
                    case round =>
                      obtain ⟨rfl, rfl, rfl⟩ := hrel
                      go_wp2_with fail
                      go_meet
                      case rel => exact ⟨by rw [HLE.out]; exact World.ownsRow_nil _ _ _ _, Below.refl _ _⟩
                  · obtain ⟨cp, rfl⟩ := hsl (by omega)
                    have hlen : (RR.drop m0).length = RR.length - m0 := List.length_drop
                    go_wp2_with fail
                    go_loopw [65, 405] (fun acc i wr => ∃ j : Nat, j ≤ RR.length - m0 ∧ i = .int .i64 j ∧ Hid (wr.ownsRow wY.heap.size 86 3 acc (((RR.drop m0).take j).filter (fun t => !decide (t ∈ c.held))).length (tcs (((RR.drop m0).take j).filter (fun t => !decide (t ∈ c.held))))) ∧ Hid (Below wY.heap.size wY wr)) (fun _ i _ => RR.length - m0 - (intOf i).toNat)
                    case atStart => exact ⟨0, by omega, rfl, World.ownsRow_nil _ _ _ _, Below.refl _ _⟩
                    case round =>
                      obtain ⟨j, hj, rfl, HW, HB2⟩ := hrel
                      by_cases hlt : j < RR.length - m0
                      · obtain ⟨t, ht⟩ : ∃ t, RR[m0 + j]? = some t := ⟨_, List.getElem?_eq_getElem (by omega)⟩
                        obtain ⟨e0, e1, e2⟩ := tcs_at (range_mono HB2.out HRR.out) ht
                        rw [Nat.add_mul] at e0 e1 e2
                        have htk : (RR.drop m0)[j]? = some t := by rw [List.getElem?_drop]; exact ht
                        have hts : (RR.drop m0).take (j + 1) = (RR.drop m0).take j ++ [t] := by rw [List.take_add_one, htk]; rfl
                        have HTS : Hid ((RR.drop m0).take (j + 1) = (RR.drop m0).take j ++ [t]) := hts
                        clear hts htk
                        have hsy : wY.heap.size ≤ wr.heap.size := HB2.out.size
                        have hhw : hib < (wr.alloc (.cells #[.int .i64 t.1, .int .i64 t.2.1, .int .i64 t.2.2] 86)).heap.size := by have := HEV.out.pl.2.2.2; simp; omega
                        have hIds : IdsAt (wr.alloc (.cells #[.int .i64 t.1, .int .i64 t.2.1, .int .i64 t.2.2] 86)) hib 0 ids := idsAt_of (World.rangeAt_alloc (range_mono HB2.out HEV.out.hid) _)
                        go_wp2_with fail
                        refine (clacks_any hib ids.length ids t.1 t.2.1 t.2.2 _ HU.out.b4 hhw hIds).mono ?_
                        rintro e w1 ⟨rfl, hb1⟩
                        have hxb : ∀ o v, (#[Value.int .i64 t.1, .int .i64 t.2.1, .int .i64 t.2.2])[o]? = some v → w1.cell? ⟨wr.heap.size, o, none⟩ = some v := fun o v hv => by
                          rw [hb1.cell (p := ⟨wr.heap.size, o, none⟩) (by simp), cell_of_row _ _ o _ _ _ (heap_alloc_new wr _)]; exact hv
                        have f0 := hxb 0 _ rfl
                        have f1 := hxb 1 _ rfl
                        have f2 := hxb 2 _ rfl
                        clear hxb e0 e1 e2 hIds
                        have HB3 : Hid (Below wY.heap.size wY w1) := (HB2.out.alloc HB2.out.size _).trans (hb1.mono (by have := HB2.out.size; simp; omega))
                        have HW1 : Hid (w1.ownsRow wY.heap.size 86 3 u65 (((RR.drop m0).take j).filter (fun t => !decide (t ∈ c.held))).length (tcs (((RR.drop m0).take j).filter (fun t => !decide (t ∈ c.held))))) := own_keep HW.out (fun g hg => by
                          have := (HW.out.lt g hg).2
                          rw [hb1.block g (by simp; omega)]; exact Go.Deep.blk_alloc_lt wr _ g this)
                        have hs1 : wY.heap.size ≤ w1.heap.size := HB3.out.size
                        have hnl : (((RR.drop m0).take j).filter (fun t => !decide (t ∈ c.held))).length ≤ 1000000 := by
                          refine Nat.le_trans (List.length_filter_le _ _) ?_
                          rw [List.length_take]; omega
                        by_cases hmem : t ∈ c.held
                        · have hcn : ids.contains (t.1, t.2.1, t.2.2) = true := by
                            have := (HU.out.mem t).1 hmem
                            simpa using this
                          have HF : Hid (((RR.drop m0).take (j + 1)).filter (fun t => !decide (t ∈ c.held)) = ((RR.drop m0).take j).filter (fun t => !decide (t ∈ c.held))) := by
                            show _ = _
                            rw [HTS.out, List.filter_append]; simp [hmem]
                          clear hmem
                          rw [hcn]
                          go_wp2_with fail
                          go_roundw
                          case rel => exact ⟨j + 1, by omega, by go_num, by rw [HF.out]; exact HW1, HB3⟩
                          case measure => simp [intOf]; omega
                        · have hcn : ids.contains (t.1, t.2.1, t.2.2) = false := by
                            have h9 : t ∉ ids := fun h => hmem ((HU.out.mem t).2 h)
                            simpa using h9
                          have HF : Hid (((RR.drop m0).take (j + 1)).filter (fun t => !decide (t ∈ c.held)) = ((RR.drop m0).take j).filter (fun t => !decide (t ∈ c.held)) ++ [t]) := by
                            show _ = _
                            rw [HTS.out, List.filter_append]; simp [hmem]
                          clear hmem
                          rw [hcn]
                          generalize hFj : ((RR.drop m0).take j).filter (fun t => !decide (t ∈ c.held)) = F at *
                          have hoA := (HW1.out).alloc (.cells #[.int .i64 t.1, .int .i64 t.2.1, .int .i64 t.2.2] 86)
                          go_wp2_with (at_builtin; refine wpList_append_own_at _ rfl _ _ 54 rfl wY.heap.size 86 tm _ 3 24 Yba.underlying54 htm hm0 hm1 hm2 rfl (by omega) u65 F.length (tcs F) rfl hoA ⟨w1.heap.size, 0, none⟩ 1 1 [.int .i64 t.1, .int .i64 t.2.1, .int .i64 t.2.2] rfl rfl (World.news_of_block (heap_alloc_new w1 _)) (tcs_one [t]) (by simp [maxLen]; omega) (by omega) (by simp; omega) ?_; intro v' w' ho hgr hnil hat)
                          go_roundw
                          case rel => exact ⟨j + 1, by omega, by go_num, by rw [HF.out, List.length_append, tcs_append]; exact ho, below_grown (HB3.out.alloc HB3.out.size _) hgr (by have := HB3.out.size; simp; omega) (fun q hq => (hoA.lt q hq).1)⟩
                          case measure => simp [intOf]; omega
                      · have HF : Hid (((RR.drop m0).take j).filter (fun t => !decide (t ∈ c.held)) = lackedFrom c.held RR m0) := by
                          show _ = _
                          rw [List.take_of_length_le (by omega)]; rfl
                        have hji : ¬ ((j : Int) < ((RR.length - m0 : Nat) : Int)) := by omega
                        go_wp2_with fail
                        go_meet
                        case rel => exact ⟨by rw [← HF.out]; exact HW, HB2⟩
                case rest =>
                  obtain ⟨HO5, HB5⟩ := hcut
                  have hLLl : (lackedFrom c.held RR m0).length ≤ 1000000 := by
                    refine Nat.le_trans (List.length_filter_le _ _) ?_
                    rw [List.length_drop]; omega
                  generalize lackedFrom c.held RR m0 = LL at *
                  obtain ⟨a5, c5, hu65⟩ : ∃ a5 c5, u65 = .slice a5 LL.length c5 := by
                    rcases HO5.out.2 with ⟨e, hn⟩ | ⟨q, cp, cur, e, _⟩
                    · exact ⟨none, 0, by rw [e, hn]⟩
                    · exact ⟨_, _, e⟩
                  subst hu65
                  have HVN : Hid (∀ q, (Value.slice a5 LL.length c5).ownBlock = some q → wY.heap.size ≤ q ∧ q < wc.heap.size) := HO5.out.lt
                  have HUN : Hid (∀ q, u58.ownBlock = some q → q < wY.heap.size) := fun q hq => (HR.out.ko.lt q hq).2
                  have HEB : Hid (eb < wY.heap.size) := (HR.out.eo.lt eb rfl).2
                  have HV5 : Hid (wc.ownsRow L0 86 3 (.slice a5 LL.length c5) LL.length (tcs LL)) := own_base HO5.out hcsz
                  have hys : wY.heap.size ≤ wc.heap.size := HB5.out.size
                  have HR5 : Hid (Rw6 wc L0 eb ec u58 GV K) := HR.out.below HB5.out (Nat.le_refl _)
                  have HN5 := HN.out.below HB5.out (by omega)
                  have HK5 : Hid (Kp wq wc L0 enb) := HK.out.below HB5.out hcsz
                  have HE5 : Hid (Ev wc S0 mb hb g ob hib c now fr fi id l es ck ids) := HEV.out.below (HB5.out.mono (by have := HEV.out.pl.2.2.2; omega))
                  clear HR HN HK HEV HRR HO5 HB5 hsl
                  have HR := HR5
                  have HN : Hid (En wc enb lk.length ((N ++ [m0]) ++ ((lk.map ackOf).drop (k + 1)).map Ack1.nl)) := HN5
                  have HK := HK5
                  clear HR5 HN5 HK5
                  by_cases hLL : LL.length = 0
                  · have hLe : LL = [] := List.length_eq_zero_iff.1 hLL
                    have HS1 := HSN hLe
                    rw [hLL]
                    go_wp2_with fail
                    go_roundw
                    case rel => exact ⟨k + 1, eb, ec, GV, K, N ++ [m0], by omega, by omega, by omega, by go_num, rfl, HS1, HN, HR, HK⟩
                    case measure => simp [intOf]; omega
                  · have hLe : LL ≠ [] := fun e => hLL (by rw [e]; rfl)
                    have HS1 := HSM hLe
                    have hLi : ¬ ((LL.length : Int) = 0) := by omega
                    by_cases haft : c.after < J
                    · rw [if_pos haft] at HS1
                      have hBA : Below wc.heap.size wc (wc.alloc (.cells #[.int .i64 (k : Nat)] 3)) := (Below.refl _ _).alloc (Nat.le_refl _) _
                      have HRA : Hid (Rw6 (wc.alloc (.cells #[.int .i64 (k : Nat)] 3)) L0 eb ec u58 GV K) := HR.out.below hBA (Nat.le_refl _)
                      have hLw : L0 ≤ wc.heap.size := by have := HR.out.eo.lt eb rfl; omega
                      go_wp2_with (at_builtin; refine wpList_append_own_at _ rfl _ _ 48 rfl L0 3 ti _ 1 8 Yba.underlying48 hti hz0 hz1 hz2 rfl (by omega) u58 (K).length ((K).map nv) rfl HRA.out.ko ⟨wc.heap.size, 0, none⟩ 1 1 [.int .i64 (k : Nat)] rfl rfl (World.news_of_block (heap_alloc_new wc _)) (by simp [Value.oneCell']) (by simp [maxLen]; omega) (by omega) (by simp; omega) ?_; intro v' w' ho hgr hnil hat)
                      have hB' : Below L0 wc w' := (hBA.mono hLw).trans (HRA.out.bound (v := u58) hgr (Or.inl rfl))
                      have HRn : Hid (Rw6 w' L0 eb ec v' GV ((K) ++ [k])) := HRA.out.push hgr ho hat
                      have HNn := HN.out.below hB' hel
                      have HKn : Hid (Kp wq w' L0 enb) := HK.out.below hB' (Nat.le_refl _)
                      have hrd : RdI w' (some ⟨ob, 0, none⟩) l := (HE5.out.mem w' (hB'.mono (by omega))).rd
                      refine (first_any fr fi J id (some ⟨ob, 0, none⟩) l.length l _ (by have := HU.out.b3; omega) hrd HU.out.b1 HU.out.b2 ⟨by omega, by omega⟩).mono ?_
                      rintro e w8 ⟨q', hq', rfl, rfl⟩
                      obtain ⟨q, hq, hff⟩ := HU.out.ff
                      obtain rfl := hq'.uniq hq
                      rw [← hff J]
                      have hBB : Below w8.heap.size w8 (w8.alloc (.cells #[.int .i64 4, .int .i64 (J * c.T + Rw c.r c.P), .int .i64 (c.ff J), .int .i64 J, .int .i64 0, .slice a5 LL.length c5, .bool false] 107)) := (Below.refl _ _).alloc (Nat.le_refl _) _
                      have HRB : Hid (Rw6 (w8.alloc (.cells #[.int .i64 4, .int .i64 (J * c.T + Rw c.r c.P), .int .i64 (c.ff J), .int .i64 J, .int .i64 0, .slice a5 LL.length c5, .bool false] 107)) L0 eb ec v' GV (K ++ [k])) := HRn.out.below hBB (Nat.le_refl _)
                      have hLw8 : L0 ≤ w8.heap.size := Nat.le_trans hLw hB'.size
                      have HVV : Hid ((w8.alloc (.cells #[.int .i64 4, .int .i64 (J * c.T + Rw c.r c.P), .int .i64 (c.ff J), .int .i64 J, .int .i64 0, .slice a5 LL.length c5, .bool false] 107)).ownsRow L0 86 3 (.slice a5 LL.length c5) LL.length (tcs LL)) := by
                        refine ((HV5.out.alloc (.cells #[.int .i64 (k : Nat)] 3)).kept hgr ?_).alloc _
                        cases hq5 : (Value.slice a5 LL.length c5).ownBlock with
                        | none => exact Or.inl rfl
                        | some q5 => exact Or.inr (fun e => by have := (HVN.out q5 hq5).1; have := HUN.out q5 e.symm; omega)
                      have HVE : Hid ((Value.slice a5 LL.length c5).ownBlock ≠ some eb) := fun e => by have := (HVN.out eb e).1; have := HEB.out; omega
                      have HVK : Hid (∀ q, v'.ownBlock = some q → (Value.slice a5 LL.length c5).ownBlock ≠ some q) := fun q h1 h2 => by
                        have h3 := HVN.out q h2
                        rcases hat with e | e
                        · have := HUN.out q (e ▸ h1); omega
                        · rw [e] at h1; injection h1 with h1; simp at h1; omega
                      clear hrd hff hq hq'
                      go_wp2_with (at_builtin; refine wpList_append_own_at _ rfl _ _ 108 rfl L0 107 tg _ 7 72 Yba.underlying108 htg hg0 hg1 hg2 rfl (by omega) (.slice (some ⟨eb, 0, none⟩) (1 + GV.length) ec) (1 + GV.length) (preCells ++ gcs GV) rfl HRB.out.eo ⟨w8.heap.size, 0, none⟩ 1 1 [.int .i64 4, .int .i64 (J * c.T + Rw c.r c.P), .int .i64 (c.ff J), .int .i64 J, .int .i64 0, .slice a5 LL.length c5, .bool false] rfl rfl (World.news_of_block (heap_alloc_new w8 _)) (by simp [Value.oneCell']) (by simp [maxLen]; omega) (by omega) (by simp; omega) ?_; intro v2 w2 ho2 hgr2 hnil2 hat2)
                      obtain ⟨eb2, ec2, hv2⟩ : ∃ eb2 ec2, v2 = .slice (some ⟨eb2, 0, none⟩) (1 + GV.length + 1) ec2 := by
                        rcases ho2.2 with ⟨_, hn⟩ | ⟨q, cp, cur, e, _⟩
                        · omega
                        · exact ⟨_, _, e⟩
                      subst hv2
                      have hat3 : eb2 = eb ∨ eb2 = (w8.alloc (.cells #[.int .i64 4, .int .i64 (J * c.T + Rw c.r c.P), .int .i64 (c.ff J), .int .i64 J, .int .i64 0, .slice a5 LL.length c5, .bool false] 107)).heap.size := by
                        rcases hat2 with e | e
                        · exact Or.inl (Option.some.inj e)
                        · exact Or.inr (Option.some.inj e)
                      have hB2 : Below L0 w8 w2 := (hBB.mono hLw8).trans (HRB.out.bound (v := .slice (some ⟨eb, 0, none⟩) (1 + GV.length) ec) hgr2 (Or.inr rfl))
                      have HRf : Hid (Rw6 w2 L0 eb2 ec2 v' (GV ++ [((⟨c.opn J, c.ff J, J, LL⟩ : Gap1), Value.slice a5 LL.length c5)]) (K ++ [k])) := HRB.out.found (gp := ⟨c.opn J, c.ff J, J, LL⟩) (v := .slice a5 LL.length c5) (eb' := eb2) (ec' := ec2) hgr2 ho2 hat3 HVV.out HVE.out HVK.out
                      have HNf := HNn.below hB2 hel
                      have HKf : Hid (Kp wq w2 L0 enb) := HKn.out.below hB2 (Nat.le_refl _)
                      have hgl2 : 1 + (GV ++ [((⟨c.opn J, c.ff J, J, LL⟩ : Gap1), Value.slice a5 LL.length c5)]).length = 1 + GV.length + 1 := by simp; omega
                      have HS2 : Hid (Sofar c (lk.map ackOf) (k + 1) ((GV ++ [((⟨c.opn J, c.ff J, J, LL⟩ : Gap1), Value.slice a5 LL.length c5)]).map (·.1)) (K ++ [k]) (N ++ [m0])) := by
                        rw [List.map_append]; exact HS1
                      go_roundw
                      case rel => exact ⟨k + 1, eb2, ec2, _, K ++ [k], N ++ [m0], by omega, by simp; omega, by simp; omega, by go_num, by rw [hgl2], HS2, HNf, HRf, HKf⟩
                      case measure => simp [intOf]; omega
                    · rw [if_neg haft, List.append_nil] at HS1
                      have hBA : Below wc.heap.size wc (wc.alloc (.cells #[.int .i64 (k : Nat)] 3)) := (Below.refl _ _).alloc (Nat.le_refl _) _
                      have HRA : Hid (Rw6 (wc.alloc (.cells #[.int .i64 (k : Nat)] 3)) L0 eb ec u58 GV K) := HR.out.below hBA (Nat.le_refl _)
                      have hLw : L0 ≤ wc.heap.size := by have := HR.out.eo.lt eb rfl; omega
                      go_wp2_with (at_builtin; refine wpList_append_own_at _ rfl _ _ 48 rfl L0 3 ti _ 1 8 Yba.underlying48 hti hz0 hz1 hz2 rfl (by omega) u58 (K).length ((K).map nv) rfl HRA.out.ko ⟨wc.heap.size, 0, none⟩ 1 1 [.int .i64 (k : Nat)] rfl rfl (World.news_of_block (heap_alloc_new wc _)) (by simp [Value.oneCell']) (by simp [maxLen]; omega) (by omega) (by simp; omega) ?_; intro v' w' ho hgr hnil hat)
                      have hB' : Below L0 wc w' := (hBA.mono hLw).trans (HRA.out.bound (v := u58) hgr (Or.inl rfl))
                      have HRn : Hid (Rw6 w' L0 eb ec v' GV ((K) ++ [k])) := HRA.out.push hgr ho hat
                      have HNn := HN.out.below hB' hel
                      have HKn : Hid (Kp wq w' L0 enb) := HK.out.below hB' (Nat.le_refl _)
                      go_roundw
                      case rel => exact ⟨k + 1, eb, ec, GV, K ++ [k], N ++ [m0], by omega, by omega, by simp; omega, by go_num, rfl, HS1, HNn, HRn, HKn⟩
                      case measure => simp [intOf]; omega
      · obtain rfl : k = lk.length := by omega
        have HG : Hid (gaps c 0 (lk.map ackOf) = (GV.map (·.1), K, N)) := HS.out.done (by simp)
        have HN1 : Hid (En wr enb lk.length N) := by
          have h9 := HN.out
          rw [List.drop_of_length_le (by simp)] at h9
          have h8 : En wr enb lk.length N := by simpa using h9
          exact h8
        go_wp2_with fail
        go_meet
        case rel => exact ⟨eb, ec, GV, K, N, rfl, HN1, HR, HG, HK⟩
end Go.Proofs.Ybulkdvuo
