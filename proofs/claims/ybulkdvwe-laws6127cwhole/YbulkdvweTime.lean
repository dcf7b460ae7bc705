import Derived.Test.YbulkdvweRows
import Derived.WalkKit
import Derived.ProofKit
import Derived.BigQuiet
import Derived.Deep.QuietTactic
import Derived.Laws.Bits64b
import Derived.Deep.RegionHeld3
import Derived.Deep.DrawnRows
namespace Go.Proofs.Ybulkdvwe
open Go.RowKit
set_option linter.unusedSimpArgs false

theorem low30 (x : Int) (h0 : 0 ≤ x) (h1 : x < 1000000000) : bits .and .u64 x 1073741823 = x := by
  obtain ⟨n, rfl⟩ := Int.eq_ofNat_of_zero_le h0
  rw [show (1073741823 : Int) = ((1073741823 : Nat) : Int) from rfl, bits_and_u64_nat _ _ (by omega) (by omega), show (1073741823 : Nat) = 2 ^ 30 - 1 from rfl, Nat.and_two_pow_sub_one_eq_mod, Nat.mod_eq_of_lt (by omega)]
theorem mono0 (x : Int) (h0 : 0 ≤ x) (h1 : x < 1000000000) : bits .and .u64 x 9223372036854775808 = 0 := by
  obtain ⟨n, rfl⟩ := Int.eq_ofNat_of_zero_le h0
  rw [show (9223372036854775808 : Int) = ((9223372036854775808 : Nat) : Int) from rfl, bits_and_u64_nat _ _ (by omega) (by omega), show (9223372036854775808 : Nat) = 2 ^ 63 from rfl, Nat.and_comm]
  have h2 : (2 ^ 63 &&& n : Nat) = 0 := by
    apply Nat.eq_of_testBit_eq; intro i; simp only [Nat.testBit_and, Nat.testBit_two_pow, Nat.zero_testBit]
    by_cases hi : 63 = i
    · subst hi; simp [Nat.testBit_lt_two_pow (x := n) (i := 63) (by omega)]
    · simp [hi]
  rw [h2]; rfl
theorem or0 (x : Int) (h0 : 0 ≤ x) (h1 : x < 1000000000) : bits .or .u64 0 x = x := by
  obtain ⟨n, rfl⟩ := Int.eq_ofNat_of_zero_le h0
  rw [show (0 : Int) = ((0 : Nat) : Int) from rfl, bits_or_u64_nat _ _ (by omega) (by omega), Nat.zero_or]
theorem w32 (x : Int) (h0 : 0 ≤ x) (h1 : x < 1000000000) : wrap32 x = x := by
  unfold wrap32; omega

set_option maxRecDepth 20000 in
theorem nsec_any (b : Nat) (x : Int) (w : World) (hc : w.cell? ⟨b, 0, none⟩ = some (.int .u64 x)) (h0 : 0 ≤ x) (h1 : x < 1000000000) :
    Calls Yba.prog 12 #[.pointer (some ⟨b, 0, none⟩)] w fun e w' => e = .returned (.int .i32 x) ∧ w' = w := by
  have hl := low30 x h0 h1
  have hw := w32 x h0 h1
  go_enter Yba.func12, Yba.ntmps12
  go_wp2
  go_ret
  exact ⟨rfl, rfl⟩
set_option maxRecDepth 20000 in
theorem sec_any (b : Nat) (x y : Int) (w : World) (hc : w.cell? ⟨b, 0, none⟩ = some (.int .u64 x)) (hd : w.cell? ⟨b, 1, none⟩ = some (.int .i64 y)) (h0 : 0 ≤ x) (h1 : x < 1000000000) :
    Calls Yba.prog 19 #[.pointer (some ⟨b, 0, none⟩)] w fun e w' => e = .returned (.int .i64 y) ∧ w' = w := by
  have hm : (bits .and .u64 x 9223372036854775808 != 0) = false := by rw [mono0 x h0 h1]; rfl
  go_enter Yba.func19, Yba.ntmps19
  go_wp2
  go_ret
  exact ⟨rfl, rfl⟩
set_option maxRecDepth 20000 in
theorem addSec_zero (b : Nat) (x d : Int) (w : World) (hc : w.cell? ⟨b, 0, none⟩ = some (.int .u64 x)) (hd : w.cell? ⟨b, 1, none⟩ = some (.int .i64 0)) (hf : w.frozen? ⟨b, 1, none⟩ = false) (h0 : 0 ≤ x) (h1 : x < 1000000000) (d0 : -9223372036854775807 ≤ d) (d1 : d ≤ 9223372036854775807) :
    Calls Yba.prog 13 #[.pointer (some ⟨b, 0, none⟩), .int .i64 d] w fun e w' => e = .returned (.tuple #[]) ∧ w' = w.setCell ⟨b, 1, none⟩ (.int .i64 d) := by
  have hm : (bits .and .u64 x 9223372036854775808 != 0) = false := by rw [mono0 x h0 h1]; rfl
  go_enter Yba.func13, Yba.ntmps13
  go_wp2
  exact bodyPost_end (v := .tuple #[]) (by simp [results, Yba.results13, go_sem]) rfl ⟨rfl, rfl⟩
/-- the zero Time and d nanoseconds -/
def timeOf (d : Int) : Value := .agg #[.int .u64 (d % 1000000000), .int .i64 (d / 1000000000), .pointer none]
set_option maxRecDepth 20000 in
theorem add_nonneg (d : Int) (w : World) (d0 : 0 ≤ d) (d1 : d ≤ 9223372036854775807) :
    Calls Yba.prog 5 #[.agg #[.int .u64 0, .int .i64 0, .pointer none], .int .i64 d] w fun e w' => e = .returned (timeOf d) ∧ Below w.heap.size w w' := by
  go_enter Yba.func5, Yba.ntmps5
  go_wp2_with fail
  refine (nsec_any _ 0 _ (by simp) (by omega) (by omega)).mono ?_
  rintro e w1 ⟨rfl, rfl⟩
  have hn : bits .andNot .u64 0 1073741823 = 0 := by decide
  have ho := or0 (d % 1000000000) (by omega) (by omega)
  have hm : (bits .and .u64 (d % 1000000000) 9223372036854775808 != 0) = false := by rw [mono0 _ (by omega) (by omega)]; rfl
  go_wp2_with fail
  refine (addSec_zero _ (d % 1000000000) _ _ (by simp) (by simp) (by simp [go_sem]) (by omega) (by omega) (by omega) (by omega)).mono ?_
  rintro e w1 ⟨rfl, rfl⟩
  go_wp2_with fail
  exact bodyPost_ret (v := timeOf d) (by simp [results, Yba.results5, go_sem, timeOf]) rfl ⟨rfl, ((Below.refl _ _).alloc (Nat.le_refl _) _).alloc (by simp) _⟩
set_option maxRecDepth 20000 in
theorem add_neg (d : Int) (w : World) (d0 : -9223372036854775808 ≤ d) (d1 : d < 0) (hz : d % 1000000000 ≠ 0) :
    Calls Yba.prog 5 #[.agg #[.int .u64 0, .int .i64 0, .pointer none], .int .i64 d] w fun e w' => e = .returned (timeOf d) ∧ Below w.heap.size w w' := by
  have hq : d.tdiv 1000000000 = d / 1000000000 + 1 := by rw [Int.tdiv_eq_ediv, if_neg (by omega)]; rfl
  have hr : d.tmod 1000000000 = d % 1000000000 - 1000000000 := by have := Int.mul_tdiv_add_tmod d 1000000000; omega
  go_enter Yba.func5, Yba.ntmps5
  go_wp2_with fail
  refine (nsec_any _ 0 _ (by simp) (by omega) (by omega)).mono ?_
  rintro e w1 ⟨rfl, rfl⟩
  have hn : bits .andNot .u64 0 1073741823 = 0 := by decide
  have ho := or0 (d % 1000000000) (by omega) (by omega)
  have hm : (bits .and .u64 (d % 1000000000) 9223372036854775808 != 0) = false := by rw [mono0 _ (by omega) (by omega)]; rfl
  go_wp2_with fail
  refine (addSec_zero _ (d % 1000000000) _ _ (by simp) (by simp) (by simp [go_sem]) (by omega) (by omega) (by omega) (by omega)).mono ?_
  rintro e w1 ⟨rfl, rfl⟩
  go_wp2_with fail
  exact bodyPost_ret (v := timeOf d) (by simp [results, Yba.results5, go_sem, timeOf]) rfl ⟨rfl, ((Below.refl _ _).alloc (Nat.le_refl _) _).alloc (by simp) _⟩

set_option maxRecDepth 20000 in
theorem add_neg0 (d : Int) (w : World) (d0 : -9223372036854775808 ≤ d) (d1 : d < 0) (hz : d % 1000000000 = 0) :
    Calls Yba.prog 5 #[.agg #[.int .u64 0, .int .i64 0, .pointer none], .int .i64 d] w fun e w' => e = .returned (timeOf d) ∧ Below w.heap.size w w' := by
  have hq : d.tdiv 1000000000 = d / 1000000000 := by rw [Int.tdiv_eq_ediv, if_pos (by omega)]; omega
  have hr : d.tmod 1000000000 = 0 := by have := Int.mul_tdiv_add_tmod d 1000000000; omega
  go_enter Yba.func5, Yba.ntmps5
  go_wp2_with fail
  refine (nsec_any _ 0 _ (by simp) (by omega) (by omega)).mono ?_
  rintro e w1 ⟨rfl, rfl⟩
  have hn : bits .andNot .u64 0 1073741823 = 0 := by decide
  have ho := or0 0 (by omega) (by omega)
  have hm : (bits .and .u64 0 9223372036854775808 != 0) = false := by rw [mono0 _ (by omega) (by omega)]; rfl
  go_wp2_with fail
  refine (addSec_zero _ 0 _ _ (by simp) (by simp) (by simp [go_sem]) (by omega) (by omega) (by omega) (by omega)).mono ?_
  rintro e w1 ⟨rfl, rfl⟩
  go_wp2_with fail
  exact bodyPost_ret (v := timeOf d) (by simp [results, Yba.results5, go_sem, timeOf, hz]) rfl ⟨rfl, ((Below.refl _ _).alloc (Nat.le_refl _) _).alloc (by simp) _⟩
theorem add_any (d : Int) (w : World) (d0 : -9223372036854775808 ≤ d) (d1 : d ≤ 9223372036854775807) :
    Calls Yba.prog 5 #[.agg #[.int .u64 0, .int .i64 0, .pointer none], .int .i64 d] w fun e w' => e = .returned (timeOf d) ∧ Below w.heap.size w w' := by
  by_cases h : 0 ≤ d
  · exact add_nonneg d w h d1
  · by_cases hz : d % 1000000000 = 0
    · exact add_neg0 d w d0 (by omega) hz
    · exact add_neg d w d0 (by omega) hz
set_option maxRecDepth 20000 in
theorem before_any (r n : Int) (w : World) :
    Calls Yba.prog 15 #[timeOf r, timeOf n] w fun e w' => e = .returned (.bool (decide (r < n))) ∧ Below w.heap.size w w' := by
  have hm : (bits .and .u64 (bits .and .u64 (r % 1000000000) (n % 1000000000)) 9223372036854775808 != 0) = false := by
    obtain ⟨a, ha⟩ := Int.eq_ofNat_of_zero_le (show 0 ≤ r % 1000000000 by omega)
    obtain ⟨b, hb⟩ := Int.eq_ofNat_of_zero_le (show 0 ≤ n % 1000000000 by omega)
    have hl : a &&& b ≤ a := Nat.and_le_left
    rw [ha, hb, bits_and_u64_nat _ _ (by omega) (by omega), mono0 _ (by omega) (by omega)]; rfl
  unfold timeOf
  go_enter Yba.func15, Yba.ntmps15
  go_wp2_with fail
  refine (sec_any _ (r % 1000000000) (r / 1000000000) _ (by simp) (by simp) (by omega) (by omega)).mono ?_
  rintro e w1 ⟨rfl, rfl⟩
  go_wp2_with fail
  refine (sec_any _ (n % 1000000000) (n / 1000000000) _ (by simp) (by simp) (by omega) (by omega)).mono ?_
  rintro e w1 ⟨rfl, rfl⟩
  by_cases h1 : r / 1000000000 < n / 1000000000
  · go_wp2_with fail
    go_ret
    exact ⟨by rw [decide_eq_true (by omega : r < n)]; rfl, ((Below.refl _ _).alloc (Nat.le_refl _) _).alloc (by simp) _⟩
  · by_cases h2 : r / 1000000000 = n / 1000000000
    · go_wp2_with fail
      refine (nsec_any _ (r % 1000000000) _ (by simp) (by omega) (by omega)).mono ?_
      rintro e w1 ⟨rfl, rfl⟩
      go_wp2_with fail
      refine (nsec_any _ (n % 1000000000) _ (by simp) (by omega) (by omega)).mono ?_
      rintro e w1 ⟨rfl, rfl⟩
      go_wp2_with fail
      go_ret
      exact ⟨congrArg (fun b => Ending.returned (.bool b)) (decide_eq_decide.2 (by omega : r % 1000000000 < n % 1000000000 ↔ r < n)), ((Below.refl _ _).alloc (Nat.le_refl _) _).alloc (by simp) _⟩
    · go_wp2_with fail
      go_ret
      exact ⟨congrArg (fun b => Ending.returned (.bool b)) (decide_eq_decide.2 (by omega : r / 1000000000 < n / 1000000000 ↔ r < n)), ((Below.refl _ _).alloc (Nat.le_refl _) _).alloc (by simp) _⟩

theorem bcell {B : Nat} {W w1 : World} (hb : Below B W w1) : (∀ b o, b < B → w1.cell? ⟨b, o, none⟩ = W.cell? ⟨b, o, none⟩) ∧ (∀ b o, b < B → w1.frozen? ⟨b, o, none⟩ = W.frozen? ⟨b, o, none⟩) :=
  ⟨fun b o h => hb.cell (p := ⟨b, o, none⟩) h, fun b o h => hb.frozen (p := ⟨b, o, none⟩) h⟩

theorem keep_old {w w1 : World} {o1 o2 : Obj} {B : Nat} (hc : ∀ b o, b < B → w1.cell? ⟨b, o, none⟩ = ((w.alloc o1).alloc o2).drew.cell? ⟨b, o, none⟩) (hB : w.heap.size + 2 ≤ B) {b o : Nat} {x : Option Value} (hb : b < w.heap.size) (h : w.cell? ⟨b, o, none⟩ = x) : w1.cell? ⟨b, o, none⟩ = x := by
  rw [hc b o (by omega)]
  show ((w.alloc o1).alloc o2).cell? _ = _
  exact (World.cell?_alloc_past _ _ _ (by simp; omega)).trans ((World.cell?_alloc_past _ _ _ hb).trans h)
theorem keep_new {w w1 : World} {c : Array Value} {t : TypeId} {o2 : Obj} {B : Nat} (hc : ∀ b o, b < B → w1.cell? ⟨b, o, none⟩ = ((w.alloc (.cells c t)).alloc o2).drew.cell? ⟨b, o, none⟩) (hB : w.heap.size + 2 ≤ B) (i : Nat) {x : Value} (h : c[i]? = some x) : w1.cell? ⟨w.heap.size, i, none⟩ = some x := by
  rw [hc _ _ (by omega)]
  show ((w.alloc (.cells c t)).alloc o2).cell? _ = _
  exact (World.cell?_alloc_past _ _ _ (by simp)).trans (by simp [h])
/-- the later of the two -/
def later (r n : Int) : Int := if r < n then n else r
set_option maxRecDepth 20000 in
theorem refill_any (r n : Int) (b : Nat) (w : World) (c0 : w.cell? ⟨b, 3, none⟩ = some (.int .u64 (r % 1000000000))) (c1 : w.cell? ⟨b, 4, none⟩ = some (.int .i64 (r / 1000000000))) (c2 : w.cell? ⟨b, 5, none⟩ = some (.pointer none)) (hb : b < w.heap.size) :
    Calls Yba.prog 6 #[.pointer (some ⟨b, 0, none⟩), timeOf n] w fun e w' => e = .returned (timeOf (later r n)) ∧ Below w.heap.size w w' := by
  have hB := before_any r n
  unfold timeOf at hB ⊢
  by_cases hlt : r < n
  all_goals
    first | have hl : later r n = n := if_pos hlt | have hl : later r n = r := if_neg hlt
    rw [hl]
    go_enter Yba.func6, Yba.ntmps6
    go_wp2_with fail
    go_region_held3 (fun w' => w'.cell? ⟨b, 3, none⟩ = some (.int .u64 (r % 1000000000)) ∧ w'.cell? ⟨b, 4, none⟩ = some (.int .i64 (r / 1000000000)) ∧ w'.cell? ⟨b, 5, none⟩ = some (.pointer none) ∧ w'.cell? ⟨w.heap.size, 0, none⟩ = some (.int .u64 (n % 1000000000)) ∧ w'.cell? ⟨w.heap.size, 1, none⟩ = some (.int .i64 (n / 1000000000)) ∧ w'.cell? ⟨w.heap.size, 2, none⟩ = some (.pointer none)) (go_keep)
      (first | (go_at_call 15; refine (hB _).mono ?_; rintro e w1 ⟨rfl, hb1⟩; obtain ⟨hc1, hf1⟩ := bcell hb1; have hz1 : w.heap.size + 2 ≤ w1.heap.size := (by have := hb1.size; simp at this; omega);  have k0 := keep_old hc1 (by simp) hb c0; have k1 := keep_old hc1 (by simp) hb c1; have k2 := keep_old hc1 (by simp) hb c2; have k3 := keep_new hc1 (by simp) 0 rfl; have k4 := keep_new hc1 (by simp) 1 rfl; have k5 := keep_new hc1 (by simp) 2 rfl))
    go_wp2_with fail
    refine bodyPost_ret (by simp [results, Yba.results6, go_sem, hc1] <;> rfl) rfl ⟨rfl, ?_⟩
    exact ((((((Below.refl _ _).alloc (Nat.le_refl _) _).alloc (by simp) _).drew.trans (hb1.mono (by simp; omega))).setCell (by simp) _).setCell (by simp) _).setCell (by simp) _
end Go.Proofs.Ybulkdvwe
