import Derived.Test.YbulkdvuoProg
import Derived.WalkKit
import Derived.WalkSpells
namespace Go.Proofs.Ybulkdvuo
open Go.RowKit

/-- zzs6124cid -/
theorem id_any (a b c : Int) (ha : 0 ≤ a ∧ a ≤ 255) (hb : 0 ≤ b ∧ b ≤ 255) (hc : 0 ≤ c ∧ c ≤ 255) (w : World) :
    Calls Yba.prog 5 #[.agg #[.int .u8 a, .int .u8 b, .int .u8 c]] w fun e w' =>
      e = .returned (.agg #[.int .i64 (a % 4), .int .i64 (b % 4), .int .i64 (c % 3)]) ∧ Below w.heap.size w w' := by
  obtain ⟨a1, a2⟩ := ha; obtain ⟨b1, b2⟩ := hb; obtain ⟨c1, c2⟩ := hc
  go_enter Yba.func5, Yba.ntmps5
  go_wp2
  exact bodyPost_ret (v := .agg #[.int .i64 (a % 4), .int .i64 (b % 4), .int .i64 (c % 3)]) (by simp [results, Yba.results5, go_sem]) rfl ⟨rfl, ((Below.refl _ _).alloc (Nat.le_refl _) _).alloc (by simp) _⟩

/-- Params.AckTime -/
theorem ackTime_any (T r P H j : Int) (hj : -32768 ≤ j ∧ j ≤ 32767) (hT : 1 ≤ T ∧ T ≤ 1000) (w : World) :
    Calls Yba.prog 25 #[.agg #[.int .i64 T, .int .i64 r, .int .i64 P, .int .i64 H], .int .i64 j] w fun e w' =>
      e = .returned (.int .i64 (j * T)) ∧ Below w.heap.size w w' := by
  have h1 : -32768000 ≤ j * T := by
    rcases Int.le_total 0 j with h | h
    · have := Int.mul_nonneg h (by omega : (0:Int) ≤ T); omega
    · have : (-j) * T ≤ 32768 * 1000 := Int.mul_le_mul (by omega) (by omega) (by omega) (by omega)
      rw [Int.neg_mul] at this; omega
  have h2 : j * T ≤ 32768000 := by
    rcases Int.le_total 0 j with h | h
    · have : j * T ≤ 32768 * 1000 := Int.mul_le_mul (by omega) (by omega) (by omega) (by omega)
      omega
    · have := Int.mul_nonneg (by omega : (0:Int) ≤ -j) (by omega : (0:Int) ≤ T); rw [Int.neg_mul] at this; omega
  go_enter Yba.func25, Yba.ntmps25
  go_wp2
  go_ret
  exact ⟨rfl, (Below.refl _ _).alloc (Nat.le_refl _) _⟩

theorem rw_bd {r P : Int} (hr : 0 ≤ r ∧ r ≤ 7) (hP : 1 ≤ P ∧ P ≤ 1000) : 0 ≤ (2 * r + 1) * P ∧ (2 * r + 1) * P ≤ 15000 :=
  ⟨Int.mul_nonneg (by omega) (by omega), by
    have : (2 * r + 1) * P ≤ 15 * 1000 := Int.mul_le_mul (by omega) (by omega) (by omega) (by omega)
    omega⟩

/-- Params.RecoveryWindow -/
theorem recW_any (T r P H : Int) (hr : 0 ≤ r ∧ r ≤ 7) (hP : 1 ≤ P ∧ P ≤ 1000) (w : World) :
    Calls Yba.prog 18 #[.agg #[.int .i64 T, .int .i64 r, .int .i64 P, .int .i64 H]] w fun e w' =>
      e = .returned (.int .i64 ((2 * r + 1) * P / 2)) ∧ Below w.heap.size w w' := by
  obtain ⟨h1, h2⟩ := rw_bd hr hP
  obtain ⟨r1, r2⟩ := hr; obtain ⟨p1, p2⟩ := hP
  go_enter Yba.func18, Yba.ntmps18
  go_wp2
  go_ret
  exact ⟨rfl, (Below.refl _ _).alloc (Nat.le_refl _) _⟩

/-- Params.slotAfter -/
theorem slotAfter_any (T r P H t : Int) (ht : -4000000000 ≤ t ∧ t ≤ 4000000000) (hT : 1 ≤ T ∧ T ≤ 1000) (w : World) :
    Calls Yba.prog 16 #[.agg #[.int .i64 T, .int .i64 r, .int .i64 P, .int .i64 H], .int .i64 t] w fun e w' =>
      e = .returned (.int .i64 (if t < 0 then 1 else t / T + 1)) ∧ Below w.heap.size w w' := by
  obtain ⟨t1, t2⟩ := ht; obtain ⟨T1, T2⟩ := hT
  by_cases h : t < 0
  · rw [if_pos h]
    go_enter Yba.func16, Yba.ntmps16
    go_wp2
    go_ret
    exact ⟨rfl, (Below.refl _ _).alloc (Nat.le_refl _) _⟩
  · rw [if_neg h]
    have h0 : 0 ≤ t := by omega
    have d0 : 0 ≤ t / T := Int.ediv_nonneg h0 (by omega)
    have d1 : t / T ≤ t := Int.ediv_le_self _ h0
    have hT0 : (T == 0) = false := beq_eq_false_iff_ne.2 (by omega)
    go_enter Yba.func16, Yba.ntmps16
    go_wp2
    go_ret
    exact ⟨rfl, (Below.refl _ _).alloc (Nat.le_refl _) _⟩
end Go.Proofs.Ybulkdvuo
