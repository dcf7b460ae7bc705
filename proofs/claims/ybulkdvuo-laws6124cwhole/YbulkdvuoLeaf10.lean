import Derived.Test.YbulkdvuoLeaf9
namespace Go.Proofs.Ybulkdvuo
open Go.RowKit
set_option linter.unusedSimpArgs false

theorem tmod_cases (x n : Int) (hn : 0 < n) : (x.tmod n < 0 ∧ x % n = x.tmod n + n) ∨ (0 ≤ x.tmod n ∧ x % n = x.tmod n) := by
  have h1 := Int.tmod_lt_of_pos x hn
  have h2 := Int.lt_tmod_of_pos x hn
  have h3 := tmod_twice x n hn
  by_cases h : x.tmod n < 0
  · refine Or.inl ⟨h, ?_⟩
    rw [← h3, Int.tmod_eq_of_lt (by omega) (by omega)]
  · refine Or.inr ⟨by omega, ?_⟩
    rw [← h3, Int.tmod_eq_emod_of_nonneg (by omega), Int.add_emod_right, Int.emod_eq_of_lt (by omega) (by omega)]

set_option maxRecDepth 20000 in
set_option maxHeartbeats 1000000 in
/-- zzs6124cfirst -/
theorem first_any (fr fi s id : Int) (oa : Option Addr) (oc : Nat) (l : List Int) (w : World) (hl : l.length ≤ 60000) (hr : RdI w oa l)
    (b1 : -1000000 ≤ fr ∧ fr ≤ 1000000) (b2 : -1000000 ≤ fi ∧ fi ≤ 1000000) (b3 : -1000000 ≤ s ∧ s ≤ 1000000) :
    Calls Yba.prog 7 #[.slice oa l.length oc, .int .i64 fi, .int .i64 fr, .int .i64 s, .int .i64 id] w fun e w' =>
      ∃ q, Ix l id q ∧ e = .returned (.int .i64 (firstOf l.length fr fi s q)) ∧ w' = w := by
  have HR : Hid (RdI w oa l) := hr
  clear hr
  go_enter Yba.func7, Yba.ntmps7
  go_wp2_with fail
  go_loopw [11, 18] (fun f i wr => ∃ (k : Nat), k ≤ l.length ∧ f = .int .i64 (-1) ∧ i = .int .i64 k ∧ Hid (∀ j (hj : j < l.length), j < k → l[j] ≠ id) ∧ wr = w) (fun _ i _ => l.length - (intOf i).toNat)
  case atStart => exact ⟨0, Nat.zero_le _, rfl, rfl, (fun j _ h => by omega), rfl⟩
  case round =>
    obtain ⟨k, hk, rfl, rfl, HF, hww⟩ := hrel
    have hww := hww.symm
    subst hww
    by_cases hlt : k < l.length
    · rcases HR.out with hn | ⟨b, off, rfl, hb, hc⟩
      · rw [hn] at hlt; simp at hlt
      have c1 := hc k hlt
      clear hc
      by_cases he : l[k] = id
      · have he' : (l[k] == id) = true := by simp [he]
        have HX : Hid (Ix l id k) := Or.inl ⟨k, hlt, rfl, he, HF.out⟩
        clear he
        have hn : (0 : Int) < l.length := by omega
        have hz : ((l.length : Int) == 0) = false := beq_eq_false_iff_ne.2 (by omega)
        have t1 := Int.tmod_lt_of_pos ((k : Int) - fi - (s - fr)) hn
        have t2 := Int.lt_tmod_of_pos ((k : Int) - fi - (s - fr)) hn
        have HFO : Hid (firstOf l.length fr fi s k = Lib.bitLen (((k : Int) - fi - (s - fr)) % l.length).toNat + 1) := by
          show firstOf l.length fr fi s k = _
          unfold firstOf distOf
          rw [if_neg (by omega), if_neg (by omega)]
        rcases tmod_cases ((k : Int) - fi - (s - fr)) l.length hn with ⟨p1, p2⟩ | ⟨p1, p2⟩
        · obtain ⟨m, hm⟩ := Int.eq_ofNat_of_zero_le (show 0 ≤ ((k : Int) - fi - (s - fr)).tmod l.length + l.length by omega)
          have HM : Hid (((k : Int) - fi - (s - fr)) % l.length = (m : Int)) := p2.trans hm
          clear p2
          have hm1 : m < 65536 := by omega
          have hbl := bl_le 16 m
          go_wp2_with fail
          refine (bitlen_any m hm1 _).mono ?_
          rintro e w1 ⟨rfl, hw1⟩
          subst hw1
          go_wp2_with fail
          go_ret
          exact ⟨k, HX.out, by rw [HFO.out, HM.out, bl_bitLen m hm1]; simp, rfl⟩
        · obtain ⟨m, hm⟩ := Int.eq_ofNat_of_zero_le p1
          have HM : Hid (((k : Int) - fi - (s - fr)) % l.length = (m : Int)) := p2.trans hm
          clear p2
          have hm1 : m < 65536 := by omega
          have hbl := bl_le 16 m
          go_wp2_with fail
          refine (bitlen_any m hm1 _).mono ?_
          rintro e w1 ⟨rfl, hw1⟩
          subst hw1
          go_wp2_with fail
          go_ret
          exact ⟨k, HX.out, by rw [HFO.out, HM.out, bl_bitLen m hm1]; simp, rfl⟩
      · have he' : (l[k] == id) = false := by simp [he]
        have HE : Hid (¬ l[k] = id) := he
        clear he
        go_wp2_with fail
        go_roundw
        case rel =>
          refine ⟨k + 1, by omega, rfl, by go_num, fun j hj hjk => ?_, trivial⟩
          by_cases h : j = k
          · subst h; exact HE.out
          · exact HF.out j hj (by omega)
        case measure => simp [intOf]; omega
    · have HL : Hid (¬ k < l.length) := hlt
      go_wp2_with fail
      go_ret
      exact ⟨-1, Or.inr ⟨rfl, fun j hj => HF.out j hj (by have := HL.out; omega)⟩, rfl, rfl⟩
end Go.Proofs.Ybulkdvuo
