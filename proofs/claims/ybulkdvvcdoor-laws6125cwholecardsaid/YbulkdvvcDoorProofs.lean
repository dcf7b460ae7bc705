import Derived.Test.YbulkdvvcDoorRows
import Derived.Test.YbulkdvvcDoorLaw
import Derived.ProofKit
import Derived.LaidMore
import Derived.OpenShut
import Derived.ShutString
import Derived.SizedLaws
import Derived.Stop.Joined
import Derived.Lib.LaidTab
namespace Go.Proofs.YbulkdvvcDoor
open Go.ChangeShapes Go.WideShapes Go.ChangeAt Go.RowKit
open Go.ChangeMaps (open_string shut_string)
set_option linter.unusedVariables false

theorem own : ownKnob Ybad.prog.godebug = none := by kernel_rfl
/-- the listed variable's name, off the row -/
def tn : String := Rows.lawS6125CWholeRow.named.headD ""
theorem gTable : Ybad.prog.globalNamed tn = some 0 := by kernel_rfl
theorem tTable : (Ybad.prog.globals[0]?).map (·.type) = some 63 := by kernel_rfl
theorem cells47 : Ybad.prog.cellsOf 47 = 1 := by kernel_rfl
theorem cells63 : Ybad.prog.cellsOf 63 = 256 := by kernel_rfl

/-- the table's numbers -/
def zs : List Int := [0, 0, 0, 0, 0, 0, 0, 0, 0, 0, 0, 0, 0, 0, 0, 0, 0, 0, 0, 0, 0, 0, 0, 0, 0, 0, 0, 0, 0, 0, 0, 0, 0, 76, 12, 0, 95, 0, 95, 12, 76, 76, 76, 95, 93, 127, 127, 65, 255, 255, 255, 255, 255, 255, 255, 255, 255, 255, 79, 93, 12, 95, 12, 64, 67, 255, 255, 255, 255, 255, 255, 127, 127, 127, 127, 127, 127, 127, 127, 127, 127, 127, 127, 127, 127, 127, 127, 127, 127, 127, 127, 12, 0, 12, 0, 127, 0, 255, 255, 255, 255, 255, 255, 127, 127, 127, 127, 127, 127, 127, 127, 127, 127, 127, 127, 127, 127, 127, 127, 127, 127, 127, 127, 0, 0, 0, 127, 0, 0, 0, 0, 0, 0, 0, 0, 0, 0, 0, 0, 0, 0, 0, 0, 0, 0, 0, 0, 0, 0, 0, 0, 0, 0, 0, 0, 0, 0, 0, 0, 0, 0, 0, 0, 0, 0, 0, 0, 0, 0, 0, 0, 0, 0, 0, 0, 0, 0, 0, 0, 0, 0, 0, 0, 0, 0, 0, 0, 0, 0, 0, 0, 0, 0, 0, 0, 0, 0, 0, 0, 0, 0, 0, 0, 0, 0, 0, 0, 0, 0, 0, 0, 0, 0, 0, 0, 0, 0, 0, 0, 0, 0, 0, 0, 0, 0, 0, 0, 0, 0, 0, 0, 0, 0, 0, 0, 0, 0, 0, 0, 0, 0, 0, 0, 0, 0, 0, 0, 0, 0, 0, 0, 0, 0, 0, 0, 0]
set_option maxRecDepth 100000 in
theorem table_eq {H : Type} : (Rows.laid_net_url_table : DataW H) = Lib.tabData .u8 zs := by kernel_rfl

set_option maxRecDepth 100000 in
/-- what the listed table gives the walk -/
theorem of_laid {W : World} (h : laidMetH Ybad.prog Rows.lawS6125CWholeRow.laid W) : Tab W := by
  rw [MakeChecks.laidMetH_plain _ _ _ (by kernel_rfl)] at h
  obtain ⟨ps, ⟨g0, t0, cs0, f0, p0, q0, hg0, ht0, hv0, hd0, _, _⟩, _, _⟩ := h
  obtain rfl := Option.some.inj (gTable.symm.trans hg0)
  obtain rfl := Option.some.inj (tTable.symm.trans ht0)
  rw [table_eq] at hd0
  have hcs := Lib.cells_of_tab Ybad.underlying63 Ybad.underlying47 cells47 cells63 hd0
  have hc : ∀ i : Nat, W.cell? ⟨0, i, none⟩ = (zs.map fun z => Value.int .u8 z)[i]? := fun i => by
    have := World.var?_cell hg0 hv0 i
    rw [this]
    rw [← hcs]
    simp
  have hlt : 0 < W.heap.size := by
    have h0 := hc 0
    rcases Nat.eq_zero_or_pos W.heap.size with h | h
    · have hn : W.heap[0]? = none := Array.getElem?_eq_none (by omega)
      have : W.cell? ⟨0, 0, none⟩ = none := by simp [World.cell?, hn]
      rw [this] at h0
      simp [zs] at h0
    · exact h
  exact ⟨hlt, (hc 97).trans rfl, (hc 98).trans rfl, (hc 47).trans rfl, (hc 46).trans rfl, (hc 120).trans rfl⟩

/-- The door's own heap meets the condition. -/
theorem door_met (os : Os) (args : Array Value) : laidMetH Ybad.prog Rows.lawS6125CWholeRow.laid ((World.doorLaid Ybad.prog 400 os).forCall (fun _ _ => 0) ⟨#[], args, []⟩).memory :=
  laidMetH_of_parts3 (fuel := 8) (laidMet_of_run' 8 (by kernel_rfl) (by kernel_rfl)) (by kernel_rfl) (by kernel_rfl)

set_option maxRecDepth 100000 in
theorem lifted (os : Os) (started : os.Started) (H : Type) (enc : TypeId × Value → H) :
    ReturnsInHanded {} Ybad.checked os 3 .any (fun w args => (Rows.lawS6125CWholeSpec.pre enc Ybad.prog Ybad.f3 [] false w args ∧ laidMetH Ybad.prog Rows.lawS6125CWholeRow.laid w) ∧ sizedMet enc Ybad.prog Ybad.f3 (OpenSpec.ofChange Rows.lawS6125CWholeSpec) false w args)
      (Rows.lawS6125CWholeSpec.post enc Ybad.prog Ybad.f3 false true false false) := by
  refine returnsInHanded_of_change_and (C := Ybad.checked) (X := fun w _ => laidMetH Ybad.prog Rows.lawS6125CWholeRow.laid w) (fun _ _ _ hh h => h.of_heap hh) own started (by kernel_rfl) Ybad.func3
    (ChangeSpec.witness_shaped (enc := enc) (C := Ybad.checked) (os := os) (X := fun w _ => laidMetH Ybad.prog Rows.lawS6125CWholeRow.laid w) false (World.doorLaid Ybad.prog 400 os) #[.int .u8 0, .string ⟨#[]⟩, .string ⟨#[]⟩, .string ⟨#[]⟩, .string ⟨#[]⟩, .string ⟨#[]⟩] 8 rfl (World.shaped_of_RefB (by kernel_rfl) (by kernel_rfl)) (by kernel_rfl) (by kernel_rfl) (by kernel_rfl) (door_met os _)) ?_
  intro W base args ds gs before hval0 hW _ hsz0 hL _
  have hval : ∀ (j : Nat) t v, Ybad.f3.params[j]? = some t → args[j]? = some v → Value.okWide Ybad.prog W .any base t v := hval0
  have hsz : (DataW.weightsEach Ybad.prog (Ybad.f3.params.toList ++ Rows.lawS6125CWholeSpec.plain.varTypes Ybad.prog) (ds ++ gs)).all (· ≤ reachBytes) = true := hsz0
  have hW' := hW
  obtain ⟨p, q, hA0, hV, rfl, hfz, hnd⟩ := hW
  have hA : DataW.TrodAll enc Ybad.prog W 0 (fun _ => true) true Ybad.f3.params.toList args.toList ds p := hA0
  rw [Ybad.params3] at hA hval hsz
  obtain ⟨v0, vs0, d0, ds0, p0, q0, hargs, rfl, rfl, h0, r0⟩ := trodAll_cons hA
  obtain ⟨v1, vs1, d1, ds1, p1, q1, rfl, rfl, rfl, h1, r1⟩ := trodAll_cons r0
  obtain ⟨v2, vs2, d2, ds2, p2, q2, rfl, rfl, rfl, h2, r2⟩ := trodAll_cons r1
  obtain ⟨v3, vs3, d3, ds3, p3, q3, rfl, rfl, rfl, h3, r3⟩ := trodAll_cons r2
  obtain ⟨v4, vs4, d4, ds4, p4, q4, rfl, rfl, rfl, h4, r4⟩ := trodAll_cons r3
  obtain ⟨v5, vs5, d5, ds5, p5, q5, rfl, rfl, rfl, h5, r5⟩ := trodAll_cons r4
  obtain ⟨rfl, rfl, rfl⟩ := trodAll_nil r5
  obtain rfl : args = #[v0, v1, v2, v3, v4, v5] := by cases args; simp_all
  obtain ⟨rfl, rfl⟩ := trodVars_none hV
  obtain ⟨a0, rfl, rfl, rfl, w0⟩ := open_int Ybad.underlying5 (hval 0 5 v0 rfl rfl) h0
  obtain ⟨s1, rfl, rfl, rfl, hs1⟩ := open_string Ybad.underlying9 (hval 1 9 v1 rfl rfl) h1
  obtain ⟨s2, rfl, rfl, rfl, hs2⟩ := open_string Ybad.underlying9 (hval 2 9 v2 rfl rfl) h2
  obtain ⟨s3, rfl, rfl, rfl, hs3⟩ := open_string Ybad.underlying9 (hval 3 9 v3 rfl rfl) h3
  obtain ⟨s4, rfl, rfl, rfl, hs4⟩ := open_string Ybad.underlying9 (hval 4 9 v4 rfl rfl) h4
  obtain ⟨s5, rfl, rfl, rfl, hs5⟩ := open_string Ybad.underlying9 (hval 5 9 v5 rfl rfl) h5
  have hT := of_laid hL
  have b1 := sized_string hsz (j := 1) (t := 9) rfl rfl
  have b2 := sized_string hsz (j := 2) (t := 9) rfl rfl
  have b3 := sized_string hsz (j := 3) (t := 9) rfl rfl
  have b4 := sized_string hsz (j := 4) (t := 9) rfl rfl
  have b5 := sized_string hsz (j := 5) (t := 9) rfl rfl
  rw [← Lib.size_eq] at b1 b2 b3 b4 b5
  unfold reachBytes at b1 b2 b3 b4 b5
  have hn : 0 ≤ a0 ∧ a0 ≤ 255 := by
    simp [Lit.wf, IntKind.min, IntKind.max, IntKind.signed, IntKind.bits] at w0
    omega
  clear hA0 hval0 hsz0 hsz
  simp only [List.append_nil] at hW'
  have walk : Calls Ybad.prog 3 #[.int .u8 a0, .string s1, .string s2, .string s3, .string s4, .string s5] W fun e w' => e = .returned (.bool true) ∧ Below W.heap.size W w' := by
    by_cases hl : s1.size + s2.size + s3.size + s4.size + s5.size ≤ 65536
    · exact law_any a0 s1 s2 s3 s4 s5 W hn hT hl
    · exact law_long a0 s1 s2 s3 s4 s5 W (by omega) (by omega) (by omega) (by omega) (by omega) (by omega)
  refine walk.mono fun e W' ⟨he, hg⟩ => ?_
  subst he
  refine ⟨_, rfl, _, _, _, [], [], [], hW', ?_, ?_, rfl, hg.frame _, fun h => by cases h⟩
  · exact trodAll_cons_mk (shut_bool Ybad.underlying4 _) trodAll_mk0
  · exact trodAll_cons_mk (shut_int Ybad.underlying5 w0) (trodAll_cons_mk (shut_string Ybad.underlying9 hs1) (trodAll_cons_mk (shut_string Ybad.underlying9 hs2) (trodAll_cons_mk (shut_string Ybad.underlying9 hs3) (trodAll_cons_mk (shut_string Ybad.underlying9 hs4) (trodAll_cons_mk (shut_string Ybad.underlying9 hs5) trodAll_mk0)))))

theorem row_holds : Rows.LawS6125CWholeSaid :=
  OpenClaim.holds_of_wide 3 Ybad.f3 rfl rfl rfl rfl rfl rfl rfl ⟨rfl, rfl, rfl, rfl, rfl⟩ rfl rfl rfl rfl rfl (by kernel_rfl) Ybad.func3 (by kernel_rfl)
    (of_decide_eq_true (by kernel_rfl)) (by unfold Func.isWrapper; first | (rw [if_pos (by decide +kernel)]; kernel_rfl) | (rw [if_neg (by decide +kernel)]; exact ⟨rfl, rfl⟩))
    (fun os started H enc _ => lifted os started H enc)
end Go.Proofs.YbulkdvvcDoor
