import Derived.Test.YbulkdvuoLeaf
import Derived.BigQuiet
import Derived.Deep.QuietTactic
import Derived.Deep.RegionHeld3
import Derived.Deep.DrawnRows
namespace Go.Proofs.Ybulkdvuo
open Go.RowKit
set_option linter.unusedSimpArgs false

theorem bcell {B : Nat} {W w1 : World} (hb : Below B W w1) : (∀ b o, b < B → w1.cell? ⟨b, o, none⟩ = W.cell? ⟨b, o, none⟩) ∧ (∀ b o, b < B → w1.frozen? ⟨b, o, none⟩ = W.frozen? ⟨b, o, none⟩) :=
  ⟨fun b o h => hb.cell (p := ⟨b, o, none⟩) h, fun b o h => hb.frozen (p := ⟨b, o, none⟩) h⟩

theorem field119_1 (a b : Value) (w : World) : (Instr.field 119 (.agg #[a, b]) 1).run Yba.prog w = .ok b w := by kernel_rfl
/-- R -/
def Rw (r P : Int) : Int := (2 * r + 1) * P / 2
theorem Rw_bd {r P : Int} (hr : 0 ≤ r ∧ r ≤ 7) (hP : 1 ≤ P ∧ P ≤ 1000) : 0 ≤ Rw r P ∧ Rw r P ≤ 7500 := by
  have := rw_bd hr hP; unfold Rw; omega
theorem jT_bd {j T : Int} (hj : -32768 ≤ j ∧ j ≤ 32767) (hT : 1 ≤ T ∧ T ≤ 1000) : -32768000 ≤ j * T ∧ j * T ≤ 32768000 := by
  constructor
  · rcases Int.le_total 0 j with h | h
    · have := Int.mul_nonneg h (by omega : (0:Int) ≤ T); omega
    · have : (-j) * T ≤ 32768 * 1000 := Int.mul_le_mul (by omega) (by omega) (by omega) (by omega)
      rw [Int.neg_mul] at this; omega
  · rcases Int.le_total 0 j with h | h
    · have : j * T ≤ 32768 * 1000 := Int.mul_le_mul (by omega) (by omega) (by omega) (by omega)
      omega
    · have := Int.mul_nonneg (by omega : (0:Int) ≤ -j) (by omega : (0:Int) ≤ T); rw [Int.neg_mul] at this; omega
theorem recW_R (T r P H : Int) (hr : 0 ≤ r ∧ r ≤ 7) (hP : 1 ≤ P ∧ P ≤ 1000) (w : World) :
    Calls Yba.prog 18 #[.agg #[.int .i64 T, .int .i64 r, .int .i64 P, .int .i64 H]] w fun e w' =>
      e = .returned (.int .i64 (Rw r P)) ∧ Below w.heap.size w w' := recW_any T r P H hr hP w

/-- Params.ackWindow -/
theorem ackWindow_any (T r P j : Int) (hj : -32768 ≤ j ∧ j ≤ 32767) (hT : 1 ≤ T ∧ T ≤ 1000) (hr : 0 ≤ r ∧ r ≤ 7) (hP : 1 ≤ P ∧ P ≤ 1000) (w : World) :
    Calls Yba.prog 17 #[.agg #[.int .i64 T, .int .i64 r, .int .i64 P, .int .i64 0], .int .i64 j] w fun e w' =>
      e = .returned (.agg #[.int .i64 (j * T), .int .i64 (j * T + Rw r P)]) ∧ Below w.heap.size w w' := by
  obtain ⟨b1, b2⟩ := Rw_bd hr hP
  obtain ⟨c1, c2⟩ := jT_bd hj hT
  go_enter Yba.func17, Yba.ntmps17
  go_wp2_with fail
  refine (ackTime_any T r P 0 j hj hT _).mono ?_
  rintro e w1 ⟨rfl, hb1⟩
  obtain ⟨hc1, hf1⟩ := bcell hb1
  have hz1 : w.heap.size + 1 < w1.heap.size := by have := hb1.size; simp at this; omega
  go_wp2_with fail
  refine (recW_R T r P 0 hr hP _).mono ?_
  rintro e w2 ⟨rfl, hb2⟩
  obtain ⟨hc2, hf2⟩ := bcell hb2
  have hz2 : w.heap.size + 1 < w2.heap.size := by have := hb2.size; omega
  go_wp2_with fail
  refine bodyPost_ret (v := .agg #[.int .i64 (j * T), .int .i64 (j * T + Rw r P)]) (by simp [results, Yba.results17, go_sem, hc1, hc2, hz1, hz2]) rfl ⟨rfl, ?_⟩
  exact (((((Below.refl _ _).alloc (Nat.le_refl _) _).alloc (by simp) _).trans (hb1.mono (by simp; omega))).trans (hb2.mono (by omega))).setCell (by simp) _ |>.setCell (by simp) _

set_option maxRecDepth 20000 in
/-- Params.messageWindow -/
theorem messageWindow_any (T r P j : Int) (hj : -32768 ≤ j ∧ j ≤ 32767) (hT : 1 ≤ T ∧ T ≤ 1000) (hr : 0 ≤ r ∧ r ≤ 7) (hP : 1 ≤ P ∧ P ≤ 1000) (w : World) :
    Calls Yba.prog 11 #[.agg #[.int .i64 T, .int .i64 r, .int .i64 P, .int .i64 0], .int .i64 j] w fun e w' =>
      e = .returned (.agg #[.int .i64 (j * T + Rw r P), .int .i64 (j * T + Rw r P + Rw r P)]) ∧ Below w.heap.size w w' := by
  obtain ⟨b1, b2⟩ := Rw_bd hr hP
  obtain ⟨c1, c2⟩ := jT_bd hj hT
  have hfld := field119_1
  go_enter Yba.func11, Yba.ntmps11
  go_wp2_with fail
  refine (ackWindow_any T r P j hj hT hr hP _).mono ?_
  rintro e w1 ⟨rfl, hb1⟩
  obtain ⟨hc1, hf1⟩ := bcell hb1
  have hz1 : w.heap.size + 1 < w1.heap.size := by have := hb1.size; simp at this; omega
  go_wp2_with fail
  refine (recW_R T r P 0 hr hP _).mono ?_
  rintro e w2 ⟨rfl, hb2⟩
  obtain ⟨hc2, hf2⟩ := bcell hb2
  have hz2 : w.heap.size + 1 < w2.heap.size := by have := hb2.size; omega
  go_wp2_with fail
  refine bodyPost_ret (v := .agg #[.int .i64 (j * T + Rw r P), .int .i64 (j * T + Rw r P + Rw r P)]) (by simp [results, Yba.results11, go_sem, hc1, hc2, hz1, hz2]) rfl ⟨rfl, ?_⟩
  exact (((((Below.refl _ _).alloc (Nat.le_refl _) _).alloc (by simp) _).trans (hb1.mono (by simp; omega))).trans (hb2.mono (by omega))).setCell (by simp) _ |>.setCell (by simp) _

/-- Params.askTime at 1 -/
theorem askTime_any (T r P op : Int) (ho : -40000000 ≤ op ∧ op ≤ 40000000) (hP : 1 ≤ P ∧ P ≤ 1000) (w : World) :
    Calls Yba.prog 13 #[.agg #[.int .i64 T, .int .i64 r, .int .i64 P, .int .i64 0], .int .i64 op, .int .i64 1] w fun e w' =>
      e = .returned (.int .i64 (op + P / 2)) ∧ Below w.heap.size w w' := by
  obtain ⟨o1, o2⟩ := ho; obtain ⟨p1, p2⟩ := hP
  go_enter Yba.func13, Yba.ntmps13
  go_wp2
  go_ret
  exact ⟨rfl, (Below.refl _ _).alloc (Nat.le_refl _) _⟩

/-- Member.joining: the phase's cell -/
theorem joining_any (mb : Nat) (s : ByteArray) (w : World) (hc : w.cell? ⟨mb, 15, none⟩ = some (.string s)) :
    Calls Yba.prog 19 #[.pointer (some ⟨mb, 0, none⟩)] w fun e w' =>
      e = .returned (.bool (s.toList == [106, 111, 105, 110, 105, 110, 103])) ∧ w' = w := by
  go_enter Yba.func19, Yba.ntmps19
  go_wp2
  go_ret
  exact ⟨rfl, rfl⟩

/-- the first slot after t -/
def slotOf (T t : Int) : Int := if t < 0 then 1 else t / T + 1
theorem slotOf_bd {T t : Int} (hT : 1 ≤ T) (ht : t ≤ 4000000000) : 1 ≤ slotOf T t ∧ slotOf T t ≤ 4000000001 := by
  unfold slotOf
  split
  · omega
  · have d0 : 0 ≤ t / T := Int.ediv_nonneg (by omega) (by omega)
    have d1 : t / T ≤ t := Int.ediv_le_self _ (by omega)
    omega
theorem slotAfter_s (T r P H t : Int) (ht : -4000000000 ≤ t ∧ t ≤ 4000000000) (hT : 1 ≤ T ∧ T ≤ 1000) (w : World) :
    Calls Yba.prog 16 #[.agg #[.int .i64 T, .int .i64 r, .int .i64 P, .int .i64 H], .int .i64 t] w fun e w' =>
      e = .returned (.int .i64 (slotOf T t)) ∧ Below w.heap.size w w' := slotAfter_any T r P H t ht hT w

set_option maxRecDepth 20000 in
/-- Params.lastClosed of messageWindow -/
theorem lastClosed_any (T r P t : Int) (ht : -2147483648 ≤ t ∧ t ≤ 2147483647) (hT : 1 ≤ T ∧ T ≤ 1000) (hr : 0 ≤ r ∧ r ≤ 7) (hP : 1 ≤ P ∧ P ≤ 1000) (w : World) :
    Calls Yba.prog 10 #[.agg #[.int .i64 T, .int .i64 r, .int .i64 P, .int .i64 0], .func (.func 11) #[.agg #[.int .i64 T, .int .i64 r, .int .i64 P, .int .i64 0]] #[], .int .i64 t] w fun e w' =>
      e = .returned (.int .i64 (slotOf T (t - (Rw r P + Rw r P)) - 1)) ∧ Below w.heap.size w w' := by
  obtain ⟨b1, b2⟩ := Rw_bd hr hP
  have hfld := field119_1
  obtain ⟨s1, s2⟩ := slotOf_bd (T := T) (t := t - (Rw r P + Rw r P)) (by omega) (by omega)
  have e1 : IntKind.i64.wrap (t - (Rw r P + Rw r P)) = t - (Rw r P + Rw r P) := by rw [IntKind.wrap_i64]; omega
  have e2 : IntKind.i64.wrap (slotOf T (t - (Rw r P + Rw r P)) - 1) = slotOf T (t - (Rw r P + Rw r P)) - 1 := by rw [IntKind.wrap_i64]; omega
  go_enter Yba.func10, Yba.ntmps10
  go_wp2_with fail
  go_region_held3 (fun w' => w'.cell? ⟨w.heap.size, 0, none⟩ = some (.int .i64 T) ∧ w'.cell? ⟨w.heap.size, 1, none⟩ = some (.int .i64 r) ∧ w'.cell? ⟨w.heap.size, 2, none⟩ = some (.int .i64 P) ∧ w'.cell? ⟨w.heap.size, 3, none⟩ = some (.int .i64 0)) (go_keep)
    (first
      | (go_at_call 11; refine (messageWindow_any T r P 0 (by omega) hT hr hP _).mono ?_; rintro e w1 ⟨rfl, hb1⟩; obtain ⟨hc1, hf1⟩ := bcell hb1; have hz1 : w.heap.size < w1.heap.size := (by have := hb1.size; simp at this; omega))
      | (go_at_call 16; refine (slotAfter_s T r P 0 _ (by omega) hT _).mono ?_; rintro e w2 ⟨rfl, hb2⟩; obtain ⟨hc2, hf2⟩ := bcell hb2))
  go_wp2
  go_ret
  exact ⟨rfl, ((((Below.refl _ _).alloc (Nat.le_refl _) _).drew).trans (hb1.mono (by simp))).trans (hb2.mono (by omega))⟩
end Go.Proofs.Ybulkdvuo
