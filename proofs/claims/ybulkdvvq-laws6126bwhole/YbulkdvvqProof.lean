import Derived.Test.YbulkdvvqTop
import Derived.Test.YbulkdvvqLaw
import Derived.Carry
namespace Go.Proofs.Ybulkdvvq
open Go.ChangeShapes Go.WideShapes Go.ChangeAt Go.RowKit
open Go.ChangeMaps (open_string shut_string)
set_option linter.unusedVariables false

theorem own : ownKnob Yba.prog.godebug = none := by kernel_rfl
theorem laidOut : laidOutB Yba.prog = true := by kernel_rfl
theorem rr22 : Yba.prog.readableRec 22 = true := by kernel_rfl
theorem rr4 : Yba.prog.readableRec 4 = true := by kernel_rfl
theorem rr9 : Yba.prog.readableRec 9 = true := by kernel_rfl
theorem rr23 : Yba.prog.readableRec 23 = true := by kernel_rfl
theorem ntypes : 40 ≤ Yba.prog.types.size := of_decide_eq_true (by kernel_rfl)

set_option maxRecDepth 100000 in
theorem lifted (os : Os) (started : os.Started) (H : Type) (enc : TypeId × Value → H) :
    ReturnsInHanded {} Yba.checked os 3 .any (Rows.lawS6126BWholeSpec.pre6 enc Yba.prog Yba.f3 Rows.lawS6126BWholeRow.domain false) (Rows.lawS6126BWholeSpec.post enc Yba.prog Yba.f3 false true false false) := by
  refine returnsInHanded_of_change_sized (C := Yba.checked) own started (by kernel_rfl) Yba.func3
    (ChangeSpec.witness6 (enc := enc) (C := Yba.checked) false ⟨#[], #[.slice none 0 0, .bool false, .bool false, .bool false, .bool false, .string ⟨#[]⟩, .slice none 0 0, .string ⟨#[]⟩, .slice none 0 0, .string ⟨#[]⟩], []⟩ 8 (by kernel_rfl) (by kernel_rfl) (by kernel_rfl) (by kernel_rfl)) ?_
  intro W base args ds gs before hval0 hW _ hsz0 _
  have hval : ∀ (j : Nat) t v, Yba.f3.params[j]? = some t → args[j]? = some v → Value.okWide Yba.prog W .any base t v := hval0
  have hsz : (DataW.weightsEach Yba.prog (Yba.f3.params.toList ++ Rows.lawS6126BWholeSpec.plain.varTypes Yba.prog) (ds ++ gs)).all (· ≤ reachBytes) = true := hsz0
  have hW' := hW
  have hlt := hW.lt
  obtain ⟨p, q, hA0, hV, rfl, hfz, hnd⟩ := hW
  have hA : DataW.TrodAll enc Yba.prog W 0 (fun _ => true) true Yba.f3.params.toList args.toList ds p := hA0
  rw [Yba.params3] at hA hval hsz
  obtain ⟨v0, vs0, d0, ds0, p0, q0, hargs, rfl, rfl, h0, r0⟩ := trodAll_cons hA
  obtain ⟨v1, vs1, d1, ds1, p1, q1, rfl, rfl, rfl, h1, r1⟩ := trodAll_cons r0
  obtain ⟨v2, vs2, d2, ds2, p2, q2, rfl, rfl, rfl, h2, r2⟩ := trodAll_cons r1
  obtain ⟨v3, vs3, d3, ds3, p3, q3, rfl, rfl, rfl, h3, r3⟩ := trodAll_cons r2
  obtain ⟨v4, vs4, d4, ds4, p4, q4, rfl, rfl, rfl, h4, r4⟩ := trodAll_cons r3
  obtain ⟨v5, vs5, d5, ds5, p5, q5, rfl, rfl, rfl, h5, r5⟩ := trodAll_cons r4
  obtain ⟨v6, vs6, d6, ds6, p6, q6, rfl, rfl, rfl, h6, r6⟩ := trodAll_cons r5
  obtain ⟨v7, vs7, d7, ds7, p7, q7, rfl, rfl, rfl, h7, r7⟩ := trodAll_cons r6
  obtain ⟨v8, vs8, d8, ds8, p8, q8, rfl, rfl, rfl, h8, r8⟩ := trodAll_cons r7
  obtain ⟨v9, vs9, d9, ds9, p9, q9, rfl, rfl, rfl, h9, r9⟩ := trodAll_cons r8
  obtain ⟨rfl, rfl, rfl⟩ := trodAll_nil r9
  obtain rfl : args = #[v0, v1, v2, v3, v4, v5, v6, v7, v8, v9] := by cases args; simp_all
  obtain ⟨rfl, rfl⟩ := trodVars_none hV
  have k0 := h0
  have k6 := h6
  have k8 := h8
  obtain ⟨b1, rfl, rfl, rfl⟩ := open_bool Yba.underlying4 (hval 1 4 v1 rfl rfl) h1
  obtain ⟨b2, rfl, rfl, rfl⟩ := open_bool Yba.underlying4 (hval 2 4 v2 rfl rfl) h2
  obtain ⟨b3, rfl, rfl, rfl⟩ := open_bool Yba.underlying4 (hval 3 4 v3 rfl rfl) h3
  obtain ⟨b4, rfl, rfl, rfl⟩ := open_bool Yba.underlying4 (hval 4 4 v4 rfl rfl) h4
  obtain ⟨s5, rfl, rfl, rfl, hs5⟩ := open_string Yba.underlying9 (hval 5 9 v5 rfl rfl) h5
  obtain ⟨s7, rfl, rfl, rfl, hs7⟩ := open_string Yba.underlying9 (hval 7 9 v7 rfl rfl) h7
  obtain ⟨s9, rfl, rfl, rfl, hs9⟩ := open_string Yba.underlying9 (hval 9 9 v9 rfl rfl) h9
  obtain ⟨a0, l0, c0, rfl, i0, z0⟩ := inB_of (okWide_slice Yba.underlying22 (hval 0 22 v0 rfl rfl)) h0 (fun n hn => by simpa using List.all_eq_true.1 hsz n (DataW.weights_mem_each (j := 0) rfl rfl n hn))
  obtain ⟨a6, l6, c6, rfl, i6, z6, y6⟩ := inS_of (okWide_slice Yba.underlying23 (hval 6 23 v6 rfl rfl)) h6 (fun n hn => by simpa using List.all_eq_true.1 hsz n (DataW.weights_mem_each (j := 6) rfl rfl n hn))
  obtain ⟨a8, l8, c8, rfl, i8, z8, y8⟩ := inS_of (okWide_slice Yba.underlying23 (hval 8 23 v8 rfl rfl)) h8 (fun n hn => by simpa using List.all_eq_true.1 hsz n (DataW.weights_mem_each (j := 8) rfl rfl n hn))
  have z5 := sized_string hsz (j := 5) (t := 9) rfl rfl
  have z7 := sized_string hsz (j := 7) (t := 9) rfl rfl
  have z9 := sized_string hsz (j := 9) (t := 9) rfl rfl
  rw [← Lib.size_eq] at z5 z7 z9
  unfold reachBytes at z0 z5 z6 z7 z8 z9 y6 y8
  clear hA0 hval0 hsz0 hsz
  simp only [List.append_nil] at hW' hlt
  have walk : Calls Yba.prog 3 #[.slice a0 l0.length c0, .bool b1, .bool b2, .bool b3, .bool b4, .string s5, .slice a6 l6.length c6, .string s7, .slice a8 l8.length c8, .string s9] W fun e w' => e = .returned (.bool true) ∧ Below W.heap.size W w' := by
    by_cases hl : l0.length + s5.size + s7.size + s9.size + l6.length + l8.length + tot l6 + tot l8 ≤ 1048576
    · exact law_any a0 c0 l0 b1 b2 b3 b4 s5 a6 c6 l6 s7 a8 c8 l8 s9 W i0 i6 i8 hl
    · exact law_long a0 c0 l0 b1 b2 b3 b4 s5 a6 c6 l6 s7 a8 c8 l8 s9 W i6.rd i8.rd (by omega) (by omega) (by omega) (by omega) (by omega) (by omega) y6 y8 (by omega)
  refine walk.mono fun e W' ⟨he, hg⟩ => ?_
  subst he
  have hr0 := Below.trod laidOut rr22 (Nat.lt_of_lt_of_le (by decide) ntypes) k0 hg (fun x hx => hlt x (by simp [hx]))
  have hr6 := Below.trod laidOut rr23 (Nat.lt_of_lt_of_le (by decide) ntypes) k6 hg (fun x hx => hlt x (by simp [hx]))
  have hr8 := Below.trod laidOut rr23 (Nat.lt_of_lt_of_le (by decide) ntypes) k8 hg (fun x hx => hlt x (by simp [hx]))
  refine ⟨_, rfl, _, _, _, [], p0 ++ ([] ++ ([] ++ ([] ++ ([] ++ ([] ++ (p6 ++ ([] ++ (p8 ++ ([] ++ []))))))))), [], hW', ?_, ?_, rfl, hg.frame _, fun h => by cases h⟩
  · exact trodAll_cons_mk (shut_bool Yba.underlying4 _) trodAll_mk0
  · exact trodAll_cons_mk hr0 (trodAll_cons_mk (shut_bool Yba.underlying4 _) (trodAll_cons_mk (shut_bool Yba.underlying4 _) (trodAll_cons_mk (shut_bool Yba.underlying4 _) (trodAll_cons_mk (shut_bool Yba.underlying4 _) (trodAll_cons_mk (shut_string Yba.underlying9 hs5) (trodAll_cons_mk hr6 (trodAll_cons_mk (shut_string Yba.underlying9 hs7) (trodAll_cons_mk hr8 (trodAll_cons_mk (shut_string Yba.underlying9 hs9) trodAll_mk0)))))))))

/-- the statement -/
theorem lawS6126B_holds : Rows.LawS6126BWholeSaid :=
  OpenClaim.holds_of_wide 3 Yba.f3 rfl rfl rfl rfl rfl rfl rfl ⟨rfl, rfl, rfl, rfl, rfl⟩ rfl rfl rfl rfl rfl (by kernel_rfl) Yba.func3 (by kernel_rfl)
    (of_decide_eq_true (by kernel_rfl)) (by unfold Func.isWrapper; first | (rw [if_pos (by decide +kernel)]; kernel_rfl) | (rw [if_neg (by decide +kernel)]; exact ⟨rfl, rfl⟩))
    (fun os started H enc _ => lifted os started H enc)
end Go.Proofs.Ybulkdvvq
