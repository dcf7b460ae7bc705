import Derived.Test.YbulkdvuoLeaf6
namespace Go.Proofs.Ybulkdvuo
open Go.RowKit
set_option linter.unusedSimpArgs false

theorem tmod_twice (x n : Int) (hn : 0 < n) : (x.tmod n + n).tmod n = x % n := by
  have h1 := Int.tmod_lt_of_pos x hn
  have h2 := Int.lt_tmod_of_pos x hn
  rw [Int.tmod_eq_emod_of_nonneg (by omega), Int.add_emod_right]
  rw [Int.tmod_eq_emod]
  split
  · simp
  · rw [Int.sub_emod]
    have : (n.natAbs : Int) % n = 0 := by
      have : (n.natAbs : Int) = n := by omega
      rw [this]; exact Int.emod_self
    rw [this]; simp
theorem RdI.kept {w w' : World} {B : Nat} {a : Option Addr} {l : List Int} (h : RdI w a l) (hb : Below B w w') (hB : w.heap.size ≤ B) : RdI w' a l := by
  rcases h with h | ⟨b, off, h0, h1, h2⟩
  · exact Or.inl h
  · refine Or.inr ⟨b, off, h0, Nat.lt_of_lt_of_le h1 (by have := hb.size; omega), fun i hi => ?_⟩
    rw [← h2 i hi]
    exact hb.cell (show b < B by omega)

/-- the distance of the place r -/
def distOf (n : Nat) (fr fi s r : Int) : Int := if r < 0 then 0 else (r - fi - (s - fr)) % n
theorem distOf_bd (n : Nat) (fr fi s r : Int) (hn : r < n) : 0 ≤ distOf n fr fi s r ∧ distOf n fr fi s r ≤ n := by
  unfold distOf
  split
  · omega
  · have h : (0 : Int) < n := by omega
    have := Int.emod_nonneg (r - fi - (s - fr)) (show (n : Int) ≠ 0 by omega)
    have := Int.emod_lt_of_pos (r - fi - (s - fr)) h
    omega
set_option maxRecDepth 20000 in
/-- ring.distance -/
theorem distance_any (si fr fi s id : Int) (oa : Option Addr) (oc : Nat) (l : List Int) (w : World) (hl : l.length ≤ 1000000) (hr : RdI w oa l)
    (b1 : -1000000 ≤ fr ∧ fr ≤ 1000000) (b2 : -1000000 ≤ fi ∧ fi ≤ 1000000) (b3 : -1000000 ≤ s ∧ s ≤ 1000000) :
    Calls Yba.prog 26 #[.agg #[.int .i64 si, .int .i64 fr, .int .i64 fi, .slice oa l.length oc], .int .i64 s, .int .i64 id] w fun e w' =>
      ∃ r, Ix l id r ∧ e = .returned (.tuple #[.int .i64 (distOf l.length fr fi s r), .bool (decide (0 ≤ r))]) ∧ Below w.heap.size w w' := by
  go_enter Yba.func26, Yba.ntmps26
  go_wp2_with fail
  refine (indexI_any oa oc l id _ hl (hr.kept ((Below.refl _ _).alloc (Nat.le_refl _) _) (Nat.le_refl _))).mono ?_
  rintro e w1 ⟨r, rfl, hix, hw1⟩
  have hlt := hix.lt
  have HIX : Hid (Ix l id r) := hix
  clear hix
  subst hw1
  by_cases h0 : r < 0
  · go_wp2_with fail
    exact bodyPost_ret (v := .tuple #[.int .i64 0, .bool false]) (by simp [results, Yba.results26, go_sem]) rfl ⟨r, HIX.out, by rw [show distOf l.length fr fi s r = 0 from if_pos h0, decide_eq_false (by omega)], (Below.refl _ _).alloc (Nat.le_refl _) _⟩
  · have hn : (0 : Int) < l.length := by omega
    have t1 := Int.tmod_lt_of_pos (r - fi - (s - fr)) hn
    have t2 := Int.lt_tmod_of_pos (r - fi - (s - fr)) hn
    have t3 := tmod_twice (r - fi - (s - fr)) l.length hn
    have hz : ((l.length : Int) == 0) = false := beq_eq_false_iff_ne.2 (by omega)
    go_wp2_with fail
    exact bodyPost_ret (v := .tuple #[.int .i64 ((r - fi - (s - fr)) % l.length), .bool true]) (by simp [results, Yba.results26, go_sem]) rfl ⟨r, HIX.out, by rw [show distOf l.length fr fi s r = _ from if_neg (by omega), decide_eq_true (by omega)], (Below.refl _ _).alloc (Nat.le_refl _) _⟩
end Go.Proofs.Ybulkdvuo
