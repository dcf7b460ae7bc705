import Derived.Test.YbulkdvuoTop
import Derived.Test.YbulkdvuoRows
import Derived.ProofKit
import Derived.SizedLaws
import Derived.OpenShut
import Derived.ShutString
import Derived.Carry
namespace Go.Proofs.Ybulkdvuo
open Go.ChangeShapes Go.WideShapes Go.ChangeAt Go.RowKit
set_option linter.unusedVariables false

theorem own : ownKnob Yba.prog.godebug = none := by kernel_rfl
theorem laidOut : laidOutB Yba.prog = true := by kernel_rfl
theorem rr23 : Yba.prog.readableRec 23 = true := by kernel_rfl
theorem rr24 : Yba.prog.readableRec 24 = true := by kernel_rfl
theorem rr25 : Yba.prog.readableRec 25 = true := by kernel_rfl
theorem rr29 : Yba.prog.readableRec 29 = true := by kernel_rfl
theorem ntypes : 40 ≤ Yba.prog.types.size := of_decide_eq_true (by kernel_rfl)

set_option maxRecDepth 100000 in
set_option maxHeartbeats 4000000 in
theorem lifted (os : Os) (started : os.Started) (H : Type) (enc : TypeId × Value → H) :
    ReturnsInHanded {} Yba.checked os 3 .any (Rows.lawS6124CWholeSpec.pre6 enc Yba.prog Yba.f3 Rows.lawS6124CWholeRow.domain false) (Rows.lawS6124CWholeSpec.post enc Yba.prog Yba.f3 false true false false) := by
  refine returnsInHanded_of_change_sized (C := Yba.checked) own started (by kernel_rfl) Yba.func3
    (ChangeSpec.witness6 (enc := enc) (C := Yba.checked) false ⟨#[], #[.int .u8 0, .int .u16 0, .int .u16 0, .int .u8 0, .int .i32 0, .int .i64 0, .slice none 0 0, .slice none 0 0, .slice none 0 0, .int .i8 0, .int .i16 0, .agg #[.bool false, .bool false, .int .u8 0, .int .i16 0]], []⟩ 8 (by kernel_rfl) (by kernel_rfl) (by kernel_rfl) (by kernel_rfl)) ?_
  intro W base args ds gs before hval0 hW _ hsz0 _
  have hval : ∀ (j : Nat) t v, Yba.f3.params[j]? = some t → args[j]? = some v → Value.okWide Yba.prog W .any base t v := hval0
  have hsz : (DataW.weightsEach Yba.prog (Yba.f3.params.toList ++ Rows.lawS6124CWholeSpec.plain.varTypes Yba.prog) (ds ++ gs)).all (· ≤ reachBytes) = true := hsz0
  have hW' := hW
  have hlt := hW.lt
  obtain ⟨p, q, hA0, hV, rfl, hfz, hnd⟩ := hW
  have hA : DataW.TrodAll enc Yba.prog W 0 (fun _ => true) true Yba.f3.params.toList args.toList ds p := hA0
  rw [Yba.params3] at hA hval hsz
  obtain ⟨v0, vs0, d0, ds0, p0, q0, hargs, rfl, rfl, h0, r0⟩ := trodAll_cons hA
  obtain ⟨v1, vs1, d1, ds1, p1, q1, rfl, rfl, rfl, h1, r1⟩ := trodAll_cons r0
  obtain ⟨v2, vs2, d2, ds2, p2, q2, rfl, rfl, rfl, h2, r2⟩ := trodAll_cons r1
  obtain ⟨v3, vs3, d3, ds3, p3, q3, rfl, rfl, rfl, h3, r3⟩ := trodAll_cons r2
  obtain ⟨v4, vs4, d4, ds4, p4, q4, rfl, rfl, rfl, h4, r4⟩ := trodAll_cons r3
  obtain ⟨v5, vs5, d5, ds5, p5, q5, rfl, rfl, rfl, h5, r5⟩ := trodAll_cons r4
  obtain ⟨v6, vs6, d6, ds6, p6, q6, rfl, rfl, rfl, h6, r6⟩ := trodAll_cons r5
  obtain ⟨v7, vs7, d7, ds7, p7, q7, rfl, rfl, rfl, h7, r7⟩ := trodAll_cons r6
  obtain ⟨v8, vs8, d8, ds8, p8, q8, rfl, rfl, rfl, h8, r8⟩ := trodAll_cons r7
  obtain ⟨v9, vs9, d9, ds9, p9, q9, rfl, rfl, rfl, h9, r9⟩ := trodAll_cons r8
  obtain ⟨v10, vs10, d10, ds10, p10, q10, rfl, rfl, rfl, h10, r10⟩ := trodAll_cons r9
  obtain ⟨v11, vs11, d11, ds11, p11, q11, rfl, rfl, rfl, h11, r11⟩ := trodAll_cons r10
  obtain ⟨rfl, rfl, rfl⟩ := trodAll_nil r11
  obtain rfl : args = #[v0, v1, v2, v3, v4, v5, v6, v7, v8, v9, v10, v11] := by cases args; simp_all
  obtain ⟨rfl, rfl⟩ := trodVars_none hV
  have k6 := h6
  have k7 := h7
  have k8 := h8
  have k11 := h11
  obtain ⟨id, rfl, rfl, rfl, w0⟩ := open_int Yba.underlying5 (hval 0 5 v0 rfl rfl) h0
  obtain ⟨tok, rfl, rfl, rfl, w1⟩ := open_int Yba.underlying22 (hval 1 22 v1 rfl rfl) h1
  obtain ⟨per, rfl, rfl, rfl, w2⟩ := open_int Yba.underlying22 (hval 2 22 v2 rfl rfl) h2
  obtain ⟨rt, rfl, rfl, rfl, w3⟩ := open_int Yba.underlying5 (hval 3 5 v3 rfl rfl) h3
  obtain ⟨now, rfl, rfl, rfl, w4⟩ := open_int Yba.underlying21 (hval 4 21 v4 rfl rfl) h4
  obtain ⟨un, rfl, rfl, rfl, w5⟩ := open_int Yba.underlying2 (hval 5 2 v5 rfl rfl) h5
  obtain ⟨fi, rfl, rfl, rfl, w9⟩ := open_int Yba.underlying26 (hval 9 26 v9 rfl rfl) h9
  obtain ⟨fr, rfl, rfl, rfl, w10⟩ := open_int Yba.underlying27 (hval 10 27 v10 rfl rfl) h10
  have c0 : 0 ≤ id ∧ id ≤ 255 := by simpa [Lit.wf, IntKind.min, IntKind.max, IntKind.signed, IntKind.bits] using w0
  have c1 : 0 ≤ tok ∧ tok ≤ 65535 := by simpa [Lit.wf, IntKind.min, IntKind.max, IntKind.signed, IntKind.bits] using w1
  have c2 : 0 ≤ per ∧ per ≤ 65535 := by simpa [Lit.wf, IntKind.min, IntKind.max, IntKind.signed, IntKind.bits] using w2
  have c3 : 0 ≤ rt ∧ rt ≤ 255 := by simpa [Lit.wf, IntKind.min, IntKind.max, IntKind.signed, IntKind.bits] using w3
  have c4 : -2147483648 ≤ now ∧ now ≤ 2147483647 := by simpa [Lit.wf, IntKind.min, IntKind.max, IntKind.signed, IntKind.bits] using w4
  have c5 : -9223372036854775808 ≤ un ∧ un ≤ 9223372036854775807 := by simpa [Lit.wf, IntKind.min, IntKind.max, IntKind.signed, IntKind.bits] using w5
  have c9 : -128 ≤ fi ∧ fi ≤ 127 := by simpa [Lit.wf, IntKind.min, IntKind.max, IntKind.signed, IntKind.bits] using w9
  have c10 : -32768 ≤ fr ∧ fr ≤ 32767 := by simpa [Lit.wf, IntKind.min, IntKind.max, IntKind.signed, IntKind.bits] using w10
  obtain ⟨a6, n6, m6', rfl⟩ := okWide_slice Yba.underlying23 (hval 6 23 v6 rfl rfl)
  obtain ⟨a7, n7, m7', rfl⟩ := okWide_slice Yba.underlying24 (hval 7 24 v7 rfl rfl)
  obtain ⟨a8, n8, m8', rfl⟩ := okWide_slice Yba.underlying25 (hval 8 25 v8 rfl rfl)
  have hv11 := hval 11 29 v11 rfl rfl
  unfold Value.okWide at hv11
  rw [Yba.underlying29] at hv11
  obtain ⟨cs, rfl, _, _⟩ := hv11
  obtain ⟨f6, g6⟩ := h6
  obtain ⟨f7, g7⟩ := h7
  obtain ⟨f8, g8⟩ := h8
  obtain ⟨f11, g11⟩ := h11
  obtain ⟨lk, la, lc, e6, hL, hok, hLr, hx6⟩ := open23 g6 (fun n hn => by simpa using List.all_eq_true.1 hsz n (DataW.weights_mem_each (j := 6) rfl rfl n hn))
  obtain ⟨hd, ha, hc, e7, hHd, hho, hz7⟩ := open24 g7
  have hx7 := hz7 (fun n hn => by simpa using List.all_eq_true.1 hsz n (DataW.weights_mem_each (j := 7) rfl rfl n hn))
  obtain ⟨od, oa, oc, e8, hOd, hoo, hx8⟩ := open25 g8
  obtain ⟨jOn, jHeld, jS, jJ, e11, c11, c12⟩ := open29 g11
  simp [Value.cells] at e6 e7 e8
  obtain ⟨rfl, rfl, rfl⟩ := e6
  obtain ⟨rfl, rfl, rfl⟩ := e7
  obtain ⟨rfl, rfl, rfl⟩ := e8
  have hcs : cs = #[.bool jOn, .bool jHeld, .int .u8 jS, .int .i16 jJ] := by
    apply Array.toList_inj.1
    simpa [Value.cells] using e11
  subst hcs
  clear hA0 hval0 hsz0 hsz
  simp only [List.append_nil] at hW' hlt
  have hwalk : Calls Yba.prog 3 #[.int .u8 id, .int .u16 tok, .int .u16 per, .int .u8 rt, .int .i32 now, .int .i64 un, .slice a6 lk.length m6', .slice a7 hd.length m7', .slice a8 od.length m8', .int .i8 fi, .int .i16 fr, .agg #[.bool jOn, .bool jHeld, .int .u8 jS, .int .i16 jJ]] W fun e w' => e = .returned (.bool true) ∧ Below W.heap.size W w' := by
    by_cases hb : lk.length ≤ 4096 ∧ hd.length ≤ 4096 ∧ od.length ≤ 4096
    · exact walk id tok per rt now un a6 lk m6' a7 hd m7' a8 od m8' fi fr jOn jHeld jS jJ W c0 c1 c2 c3 c4 c5 c9 c10 c11 c12 hb.1 hb.2.1 hb.2.2 hL hok hLr hHd hho hOd hoo
    · exact walk_long id tok per rt now un a6 a7 a8 lk.length m6' hd.length m7' od.length m8' fi fr jOn jHeld jS jJ W hx6 (by unfold maxLen; omega) hx8 hb
  refine hwalk.mono fun e W' ⟨he, hg⟩ => ?_
  subst he
  have hr6 := Below.trod laidOut rr23 (Nat.lt_of_lt_of_le (by decide) ntypes) k6 hg (fun x hx => hlt x (by simp [hx]))
  have hr7 := Below.trod laidOut rr24 (Nat.lt_of_lt_of_le (by decide) ntypes) k7 hg (fun x hx => hlt x (by simp [hx]))
  have hr8 := Below.trod laidOut rr25 (Nat.lt_of_lt_of_le (by decide) ntypes) k8 hg (fun x hx => hlt x (by simp [hx]))
  have hr11 := Below.trod laidOut rr29 (Nat.lt_of_lt_of_le (by decide) ntypes) k11 hg (fun x hx => hlt x (by simp [hx]))
  refine ⟨_, rfl, _, _, _, [], [] ++ ([] ++ ([] ++ ([] ++ ([] ++ ([] ++ (p6 ++ (p7 ++ (p8 ++ ([] ++ ([] ++ (p11 ++ []))))))))))), [], hW', ?_, ?_, rfl, hg.frame _, fun h => by cases h⟩
  · exact trodAll_cons_mk (shut_bool Yba.underlying4 _) trodAll_mk0
  · exact trodAll_cons_mk (shut_int Yba.underlying5 w0) (trodAll_cons_mk (shut_int Yba.underlying22 w1) (trodAll_cons_mk (shut_int Yba.underlying22 w2) (trodAll_cons_mk (shut_int Yba.underlying5 w3) (trodAll_cons_mk (shut_int Yba.underlying21 w4) (trodAll_cons_mk (shut_int Yba.underlying2 w5) (trodAll_cons_mk hr6 (trodAll_cons_mk hr7 (trodAll_cons_mk hr8 (trodAll_cons_mk (shut_int Yba.underlying26 w9) (trodAll_cons_mk (shut_int Yba.underlying27 w10) (trodAll_cons_mk hr11 trodAll_mk0)))))))))))

/-- the statement -/
theorem lawS6124C_holds : Rows.LawS6124CWholeSaid :=
  OpenClaim.holds_of_wide 3 Yba.f3 rfl rfl rfl rfl rfl rfl rfl ⟨rfl, rfl, rfl, rfl, rfl⟩ rfl rfl rfl rfl rfl (by kernel_rfl) Yba.func3 (by kernel_rfl)
    (of_decide_eq_true (by kernel_rfl)) (by unfold Func.isWrapper; first | (rw [if_pos (by decide +kernel)]; kernel_rfl) | (rw [if_neg (by decide +kernel)]; exact ⟨rfl, rfl⟩))
    (fun os started H enc _ => lifted os started H enc)
end Go.Proofs.Ybulkdvuo
