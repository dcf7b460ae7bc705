/- The shell of this seat, its walk filled in. -/
import Derived.Test.YbulkdvweRows
import Derived.Test.YbulkdvweTime
import Derived.WalkKit
import Derived.ProofKit
import Derived.OpenShut
import Derived.ShutString
namespace Go.Proofs.Ybulkdvwe.lawS6127BWhole
open Go.ChangeShapes Go.WideShapes Go.ChangeAt Go.RowKit
open Go.ChangeMaps (open_string shut_string)
set_option linter.unusedVariables false      -- a walk need not use every 'w<i>' (that an integer argument fits its kind)

theorem bdrewN {B : Nat} {a w : World} (h : Below B a w) (n : Nat) : Below B a (w.drewN n) := h.trans ⟨rfl, rfl, rfl, Nat.le_refl _, fun _ _ => rfl⟩
theorem own : ownKnob Yba.prog.godebug = none := by kernel_rfl

/-! ### the walk -/
set_option linter.unusedSimpArgs false
set_option maxRecDepth 20000 in
theorem walk (a0 : Int) (a1 : Int) (w0 : (Lit.int .i64 a0).wf = true) (w1 : (Lit.int .i64 a1).wf = true) (w : World) :
    Calls Yba.prog 3 #[.int .i64 a0, .int .i64 a1] w fun e w' => e = .returned (.bool true) ∧ Below w.heap.size w w' := by
  have b0 : -9223372036854775808 ≤ a0 ∧ a0 ≤ 9223372036854775807 := by simpa [Lit.wf, IntKind.min, IntKind.max, IntKind.signed, IntKind.bits] using w0
  have b1 : -9223372036854775808 ≤ a1 ∧ a1 ≤ 9223372036854775807 := by simpa [Lit.wf, IntKind.min, IntKind.max, IntKind.signed, IntKind.bits] using w1
  go_enter Yba.func3, Yba.ntmps3
  go_wp2_with fail
  refine (add_any a0 _ b0.1 b0.2).mono ?_
  rintro e w1 ⟨rfl, hb1⟩
  obtain ⟨hc1, hf1⟩ := bcell hb1
  have hz1 : w.heap.size < w1.heap.size := by have := hb1.size; simp at this; omega
  unfold timeOf
  go_wp2_with fail
  refine (add_any a1 _ b1.1 b1.2).mono ?_
  rintro e w2 ⟨rfl, hb2⟩
  obtain ⟨hc2, hf2⟩ := bcell hb2
  have hz2 : w1.heap.size < w2.heap.size := by have := hb2.size; simp at this; omega
  unfold timeOf
  go_wp2_with fail
  refine (refill_any a0 a1 _ _ (by simp [go_sem]) (by simp [go_sem]) (by simp [go_sem]) (by simp)).mono ?_
  rintro e w3 ⟨rfl, hb3⟩
  obtain ⟨hc3, hf3⟩ := bcell hb3
  have hz3 : w2.heap.size + 1 < w3.heap.size := by have := hb3.size; simp at this; omega
  have p0 : w3.cell? ⟨w2.heap.size, 0, none⟩ = some (.int .u64 (a1 % 1000000000)) := by rw [hc3 _ _ (by simp; omega)]; simp [go_sem]
  have p1 : w3.cell? ⟨w2.heap.size, 1, none⟩ = some (.int .i64 (a1 / 1000000000)) := by rw [hc3 _ _ (by simp; omega)]; simp [go_sem]
  have p2 : w3.cell? ⟨w2.heap.size, 2, none⟩ = some (.pointer none) := by rw [hc3 _ _ (by simp; omega)]; simp [go_sem]
  have q0 : w3.cell? ⟨w2.heap.size + 1, 0, none⟩ = some (.int .u64 0) := by rw [hc3 _ _ (by simp)]; simp [go_sem]
  have q1 : w3.cell? ⟨w2.heap.size + 1, 1, none⟩ = some (.int .u64 0) := by rw [hc3 _ _ (by simp)]; simp [go_sem]
  have q2 : w3.cell? ⟨w2.heap.size + 1, 2, none⟩ = some (.pointer none) := by rw [hc3 _ _ (by simp)]; simp [go_sem]
  have q3 : w3.cell? ⟨w2.heap.size + 1, 3, none⟩ = some (.int .u64 (a0 % 1000000000)) := by rw [hc3 _ _ (by simp)]; simp [go_sem]
  have q4 : w3.cell? ⟨w2.heap.size + 1, 4, none⟩ = some (.int .i64 (a0 / 1000000000)) := by rw [hc3 _ _ (by simp)]; simp [go_sem]
  have q5 : w3.cell? ⟨w2.heap.size + 1, 5, none⟩ = some (.pointer none) := by rw [hc3 _ _ (by simp)]; simp [go_sem]
  have r0 : w3.cell? ⟨w1.heap.size, 0, none⟩ = some (.int .u64 (a0 % 1000000000)) := by rw [hc3 _ _ (by simp; omega), World.cell?_alloc_past _ _ _ (by simp; omega), World.cell?_alloc_past _ _ _ hz2, hc2 _ _ (by simp)]; simp
  have r1 : w3.cell? ⟨w1.heap.size, 1, none⟩ = some (.int .i64 (a0 / 1000000000)) := by rw [hc3 _ _ (by simp; omega), World.cell?_alloc_past _ _ _ (by simp; omega), World.cell?_alloc_past _ _ _ hz2, hc2 _ _ (by simp)]; simp
  have r2 : w3.cell? ⟨w1.heap.size, 2, none⟩ = some (.pointer none) := by rw [hc3 _ _ (by simp; omega), World.cell?_alloc_past _ _ _ (by simp; omega), World.cell?_alloc_past _ _ _ hz2, hc2 _ _ (by simp)]; simp
  have hz4 : w2.heap.size < w3.heap.size := by omega
  have hz5 : w1.heap.size < w3.heap.size := by omega
  clear hc1 hc2 hc3 hf1 hf2 hf3
  unfold timeOf
  have hp := fun (d : Nat) (w : World) => run_equalIn_pointer_nil (P := Yba.prog) w d 23 none (by kernel_rfl)
  have hp' := fun (d : Nat) (w : World) => run_equalIn_pointer_nil (P := Yba.prog) w d 31 none (by kernel_rfl)
  by_cases hlt : a0 < a1
  all_goals
    first | have hl : later a0 a1 = a1 := if_pos hlt | have hl : later a0 a1 = a0 := if_neg hlt
    rw [hl]
    go_wp2_with fail
    go_quiet (fail)
    go_wp2_with fail
    go_ret
    exact ⟨rfl, bdrewN ((((((((((Below.refl _ _).alloc (Nat.le_refl _) _).trans (hb1.mono (by simp))).alloc (by omega) _).trans (hb2.mono (by simp; omega))).alloc (by omega) _).alloc (by simp; omega) _).trans (hb3.mono (by simp; omega))).alloc (by omega) _).alloc (by simp; omega) _) _⟩

/-! ### the row's step -/
set_option maxRecDepth 100000 in
theorem lifted (os : Os) (started : os.Started) (H : Type) (enc : TypeId × Value → H) :
    ReturnsInHanded {} Yba.checked os 3 .any (Rows.lawS6127BWholeSpec.pre6 enc Yba.prog Yba.f3 Rows.lawS6127BWholeRow.domain false) (Rows.lawS6127BWholeSpec.post enc Yba.prog Yba.f3 false true false false) := by
  refine returnsInHanded_of_change (C := Yba.checked) own started (by kernel_rfl) Yba.func3
    (ChangeSpec.witness6 (enc := enc) (C := Yba.checked) false ⟨#[], #[.int .i64 0, .int .i64 0], []⟩ 8 (by kernel_rfl) (by kernel_rfl) (by kernel_rfl) (by kernel_rfl)) ?_
  intro W base args ds gs before hval0 hW hcnd _
  have hval : ∀ (j : Nat) t v, Yba.f3.params[j]? = some t → args[j]? = some v → Value.okWide Yba.prog W .any base t v := hval0
  have hW' := hW
  obtain ⟨p, q, hA0, hV, rfl, hfz, hnd⟩ := hW
  have hA : DataW.TrodAll enc Yba.prog W 0 (fun _ => true) true Yba.f3.params.toList args.toList ds p := hA0
  rw [Yba.params3] at hA hval
  obtain ⟨v0, vs0, d0, ds0, p0, q0, hargs, rfl, rfl, h0, r0⟩ := trodAll_cons hA
  obtain ⟨v1, vs1, d1, ds1, p1, q1, rfl, rfl, rfl, h1, r1⟩ := trodAll_cons r0
  obtain ⟨rfl, rfl, rfl⟩ := trodAll_nil r1
  obtain rfl : args = #[v0, v1] := by cases args; simp_all
  obtain ⟨rfl, rfl⟩ := trodVars_none hV
  obtain ⟨a0, rfl, rfl, rfl, w0⟩ := open_int Yba.underlying2 (hval 0 2 v0 rfl rfl) h0
  obtain ⟨a1, rfl, rfl, rfl, w1⟩ := open_int Yba.underlying2 (hval 1 2 v1 rfl rfl) h1
  clear hA0 hval0
  simp only [List.append_nil] at hW'
  refine (walk a0 a1 w0 w1 W).mono fun e W' ⟨he, hg⟩ => ?_
  subst he
  refine ⟨_, rfl, _, _, _, [], [], [], hW', ?_, ?_, rfl, hg.frame _, fun h => by cases h⟩
  · exact trodAll_cons_mk (shut_bool Yba.underlying4 _) trodAll_mk0
  · exact trodAll_cons_mk (shut_int Yba.underlying2 w0) (trodAll_cons_mk (shut_int Yba.underlying2 w1) trodAll_mk0)

theorem over : Rows.lawS6127BWholeRow.holds Yba.pinned (OpenSpec.ofChange Rows.lawS6127BWholeSpec) :=
  OpenClaim.holds_of_wide 3 Yba.f3 rfl rfl rfl rfl rfl rfl rfl ⟨rfl, rfl, rfl, rfl, rfl⟩ rfl rfl rfl rfl rfl (by kernel_rfl) Yba.func3 (by kernel_rfl)
    (of_decide_eq_true (by kernel_rfl)) (by unfold Func.isWrapper; first | (rw [if_pos (by decide +kernel)]; kernel_rfl) | (rw [if_neg (by decide +kernel)]; exact ⟨rfl, rfl⟩))
    (fun os started H enc _ => lifted os started H enc)

end Go.Proofs.Ybulkdvwe.lawS6127BWhole
namespace Go.Proofs.Ybulkdvwe
/-- the statement -/
theorem lawS6127B_holds : Rows.LawS6127BWholeSaid := lawS6127BWhole.over
end Go.Proofs.Ybulkdvwe
