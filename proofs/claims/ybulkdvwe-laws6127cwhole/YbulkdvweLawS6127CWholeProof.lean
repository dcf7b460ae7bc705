import Derived.Test.YbulkdvweTop
import Derived.Test.YbulkdvweRows
import Derived.WalkKit
import Derived.ProofKit
import Derived.OpenShut
import Derived.ShutString
import Derived.Carry
namespace Go.Proofs.Ybulkdvwe.lawS6127CWhole
open Go.ChangeShapes Go.WideShapes Go.ChangeAt Go.RowKit
open Extern.Stop (cell)
set_option linter.unusedVariables false

theorem own : ownKnob Yba.prog.godebug = none := by kernel_rfl
theorem laidOut : laidOutB Yba.prog = true := by kernel_rfl
theorem rr40 : Yba.prog.readableRec 40 = true := by kernel_rfl
theorem rr41 : Yba.prog.readableRec 41 = true := by kernel_rfl
theorem ntypes : 60 ≤ Yba.prog.types.size := of_decide_eq_true (by kernel_rfl)

set_option maxRecDepth 100000 in
theorem lifted (os : Os) (started : os.Started) (H : Type) (enc : TypeId × Value → H) :
    ReturnsInHanded {} Yba.checked os 4 .any (Rows.lawS6127CWholeSpec.pre6 enc Yba.prog Yba.f4 Rows.lawS6127CWholeRow.domain false) (Rows.lawS6127CWholeSpec.post enc Yba.prog Yba.f4 false true false false) := by
  refine returnsInHanded_of_change (C := Yba.checked) own started (by kernel_rfl) Yba.func4
    (ChangeSpec.witness6 (enc := enc) (C := Yba.checked) false ⟨#[], #[.agg #[.int .u8 0, .int .u8 0, .int .u8 0, .int .u8 0, .int .u8 0, .int .u8 0, .int .u8 0, .int .u8 0, .int .u8 0, .int .u8 0, .int .u8 0, .int .u8 0, .int .u8 0, .int .u8 0, .int .u8 0, .int .u8 0, .int .u8 0, .int .u8 0, .int .u8 0, .int .u8 0], .int .i64 0, .slice none 0 0], []⟩ 8 (by kernel_rfl) (by kernel_rfl) (by kernel_rfl) (by kernel_rfl)) ?_
  intro W base args ds gs before hval0 hW hcnd _
  have hval : ∀ (j : Nat) t v, Yba.f4.params[j]? = some t → args[j]? = some v → Value.okWide Yba.prog W .any base t v := hval0
  have hW' := hW
  have hlt := hW.lt
  obtain ⟨p, q, hA0, hV, rfl, hfz, hnd⟩ := hW
  have hA : DataW.TrodAll enc Yba.prog W 0 (fun _ => true) true Yba.f4.params.toList args.toList ds p := hA0
  rw [Yba.params4] at hA hval
  obtain ⟨v0, vs0, d0, ds0, p0, q0, hargs, rfl, rfl, h0, r0⟩ := trodAll_cons hA
  obtain ⟨v1, vs1, d1, ds1, p1, q1, rfl, rfl, rfl, h1, r1⟩ := trodAll_cons r0
  obtain ⟨v2, vs2, d2, ds2, p2, q2, rfl, rfl, rfl, h2, r2⟩ := trodAll_cons r1
  obtain ⟨rfl, rfl, rfl⟩ := trodAll_nil r2
  obtain rfl : args = #[v0, v1, v2] := by cases args; simp_all
  obtain ⟨rfl, rfl⟩ := trodVars_none hV
  have k0 := h0
  have k2 := h2
  obtain ⟨a1, rfl, rfl, rfl, w1⟩ := open_int Yba.underlying3 (hval 1 3 v1 rfl rfl) h1
  have hv0 := hval 0 40 v0 rfl rfl
  unfold Value.okWide at hv0
  rw [Yba.underlying40] at hv0
  obtain ⟨cs, rfl, _, _⟩ := hv0
  obtain ⟨fuel, hf⟩ := h0
  obtain ⟨self, hself, hs⟩ := open_arr hf
  have hcs : cs = (self.map cell).toArray := by
    apply Array.toList_inj.1
    simpa [Value.cells] using hself
  subst hcs
  obtain ⟨es, ad, cap, rfl, hok, hmax, harg⟩ := ents_of (okWide_slice Yba.underlying41 (hval 2 41 v2 rfl rfl)) h2
  clear hA0 hval0
  simp only [List.append_nil] at hW' hlt
  refine (walk self a1 es ad cap W hok hs hmax harg).mono fun e W' ⟨he, hg⟩ => ?_
  subst he
  have hr0 := Below.trod laidOut rr40 (Nat.lt_of_lt_of_le (by decide) ntypes) k0 hg (fun x hx => hlt x (by simp [hx]))
  have hr2 := Below.trod laidOut rr41 (Nat.lt_of_lt_of_le (by decide) ntypes) k2 hg (fun x hx => hlt x (by simp [hx]))
  refine ⟨_, rfl, _, _, _, [], p0 ++ ([] ++ (p2 ++ [])), [], hW', ?_, ?_, rfl, hg.frame _, fun h => by cases h⟩
  · exact trodAll_cons_mk (shut_bool Yba.underlying4 _) trodAll_mk0
  · exact trodAll_cons_mk hr0 (trodAll_cons_mk (shut_int Yba.underlying3 w1) (trodAll_cons_mk hr2 trodAll_mk0))

theorem over : Rows.lawS6127CWholeRow.holds Yba.pinned (OpenSpec.ofChange Rows.lawS6127CWholeSpec) :=
  OpenClaim.holds_of_wide 4 Yba.f4 rfl rfl rfl rfl rfl rfl rfl ⟨rfl, rfl, rfl, rfl, rfl⟩ rfl rfl rfl rfl rfl (by kernel_rfl) Yba.func4 (by kernel_rfl)
    (of_decide_eq_true (by kernel_rfl)) (by unfold Func.isWrapper; first | (rw [if_pos (by decide +kernel)]; kernel_rfl) | (rw [if_neg (by decide +kernel)]; exact ⟨rfl, rfl⟩))
    (fun os started H enc _ => lifted os started H enc)

end Go.Proofs.Ybulkdvwe.lawS6127CWhole
namespace Go.Proofs.Ybulkdvwe
/-- the statement -/
theorem lawS6127C_holds : Rows.LawS6127CWholeSaid := lawS6127CWhole.over
end Go.Proofs.Ybulkdvwe
