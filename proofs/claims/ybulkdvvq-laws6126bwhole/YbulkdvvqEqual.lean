import Derived.Test.YbulkdvvqBytes
import Derived.BigQuiet
import Derived.Deep.QuietTactic
namespace Go.Proofs.Ybulkdvvq
open Go.RowKit
set_option linter.unusedSimpArgs false

theorem bdrewN {B : Nat} {a w : World} (h : Below B a w) (n : Nat) : Below B a (w.drewN n) := h.trans ⟨rfl, rfl, rfl, Nat.le_refl _, fun _ _ => rfl⟩
/-- a slice that reads as these bytes -/
def RdB (w : World) (a : Option Addr) (l : List UInt8) : Prop := l = [] ∨ ∃ b off, a = some ⟨b, off, none⟩ ∧ ∀ i (hi : i < l.length), w.cell? ⟨b, off + i, none⟩ = some (.int .u8 (l[i].toNat : Int))
/-- a slice that reads as these strings -/
def RdS (w : World) (a : Option Addr) (l : List ByteArray) : Prop := l = [] ∨ ∃ b off, a = some ⟨b, off, none⟩ ∧ b < w.heap.size ∧ ∀ i (hi : i < l.length), w.cell? ⟨b, off + i, none⟩ = some (.string l[i])

set_option maxRecDepth 20000 in
/-- slices.Equal at two slices of the same bytes -/
theorem equalB_any (a1 a2 : Option Addr) (c1 c2 : Nat) (l : List UInt8) (w : World) (hl : l.length ≤ 50000000) (h1 : RdB w a1 l) (h2 : RdB w a2 l) :
    Calls Yba.prog 11 #[.slice a1 l.length c1, .slice a2 l.length c2] w fun e w' => e = .returned (.bool true) ∧ ∃ n, w' = w.drewN n := by
  rcases Nat.eq_zero_or_pos l.length with h0 | h0
  · rw [h0]
    clear h1 h2
    go_enter Yba.func11, Yba.ntmps11
    go_wp2
    refine wp_loop_rounds 1 ?_; rw [rounds_succ]
    go_wp2
    go_ret
    exact ⟨rfl, 0, rfl⟩
  · rcases h1 with h1 | ⟨b1, o1, rfl, k1⟩
    · rw [h1] at h0; simp at h0
    rcases h2 with h2 | ⟨b2, o2, rfl, k2⟩
    · rw [h2] at h0; simp at h0
    have K1 : Hid (∀ i (hi : i < l.length), w.cell? ⟨b1, o1 + i, none⟩ = some (.int .u8 (l[i].toNat : Int))) := k1
    have K2 : Hid (∀ i (hi : i < l.length), w.cell? ⟨b2, o2 + i, none⟩ = some (.int .u8 (l[i].toNat : Int))) := k2
    clear k1 k2
    go_enter Yba.func11, Yba.ntmps11
    go_wp2
    go_loopw [13] (fun i wr => ∃ (k n : Nat), k ≤ l.length ∧ i = .int .i64 k ∧ wr = w.drewN n) (fun i _ => l.length - (intOf i).toNat)
    case atStart => exact ⟨0, 0, Nat.zero_le _, rfl, rfl⟩
    case round =>
      obtain ⟨k, n, hk, rfl, rfl⟩ := hrel
      by_cases hlt : k < l.length
      · have d1 := K1.out k hlt
        have d2 := K2.out k hlt
        have i1 : (0 : Int) ≤ (k : Int) := by omega
        have i2 : (k : Int) < (l.length : Int) := by omega
        go_wp2_with fail
        go_quiet (fail)
        go_wp2
        go_roundw
        case rel => exact ⟨k + 1, _, by omega, by go_num, rfl⟩
        case measure => simp [intOf]; omega
      · go_wp2
        go_ret
        exact ⟨rfl, n, rfl⟩
set_option maxRecDepth 20000 in
/-- slices.Equal at two slices of the same strings -/
theorem equalS_any (a1 a2 : Option Addr) (c1 c2 : Nat) (l : List ByteArray) (w : World) (hl : l.length ≤ 50000000) (h1 : RdS w a1 l) (h2 : RdS w a2 l) :
    Calls Yba.prog 12 #[.slice a1 l.length c1, .slice a2 l.length c2] w fun e w' => e = .returned (.bool true) ∧ ∃ n, w' = w.drewN n := by
  rcases Nat.eq_zero_or_pos l.length with h0 | h0
  · rw [h0]
    clear h1 h2
    go_enter Yba.func12, Yba.ntmps12
    go_wp2
    refine wp_loop_rounds 1 ?_; rw [rounds_succ]
    go_wp2
    go_ret
    exact ⟨rfl, 0, rfl⟩
  · rcases h1 with h1 | ⟨b1, o1, rfl, _, k1⟩
    · rw [h1] at h0; simp at h0
    rcases h2 with h2 | ⟨b2, o2, rfl, _, k2⟩
    · rw [h2] at h0; simp at h0
    have K1 : Hid (∀ i (hi : i < l.length), w.cell? ⟨b1, o1 + i, none⟩ = some (.string l[i])) := k1
    have K2 : Hid (∀ i (hi : i < l.length), w.cell? ⟨b2, o2 + i, none⟩ = some (.string l[i])) := k2
    clear k1 k2
    go_enter Yba.func12, Yba.ntmps12
    go_wp2
    go_loopw [13] (fun i wr => ∃ (k n : Nat), k ≤ l.length ∧ i = .int .i64 k ∧ wr = w.drewN n) (fun i _ => l.length - (intOf i).toNat)
    case atStart => exact ⟨0, 0, Nat.zero_le _, rfl, rfl⟩
    case round =>
      obtain ⟨k, n, hk, rfl, rfl⟩ := hrel
      by_cases hlt : k < l.length
      · have d1 := K1.out k hlt
        have d2 := K2.out k hlt
        have i1 : (0 : Int) ≤ (k : Int) := by omega
        have i2 : (k : Int) < (l.length : Int) := by omega
        go_wp2_with fail
        go_quiet (fail)
        go_wp2
        go_roundw
        case rel => exact ⟨k + 1, _, by omega, by go_num, rfl⟩
        case measure => simp [intOf]; omega
      · go_wp2
        go_ret
        exact ⟨rfl, n, rfl⟩

/-- strings as cells -/
def sv (l : List ByteArray) : List Value := l.map Value.string
theorem info9 : (Yba.prog.info? 9).map (fun i => (i.zero, i.size, i.bytes)) = some (some (.string ⟨#[]⟩), 1, 16) := by kernel_rfl

/-- slices.Clone of strings: nil -/
theorem cloneS_nil (w : World) : Calls Yba.prog 7 #[.slice none 0 0] w fun e w' => ∃ a c, e = .returned (.slice a 0 c) ∧ RdS w' a [] ∧ Below w.heap.size w w' := by
  have hn := fun (w : World) => Lib.run_eql_slice_nil (P := Yba.prog) w 23 9 none 0 0 0 0 Yba.underlying23
  go_enter Yba.func7, Yba.ntmps7
  go_wp2
  go_ret
  exact ⟨_, _, rfl, Or.inl rfl, Below.refl _ _⟩

theorem owned_shape {w : World} {B : Nat} {v : Value} {l : List ByteArray} (h : w.ownsRow B 9 1 v l.length (sv l)) : ∃ a c, v = .slice a l.length c ∧ RdS w a l := by
  rcases h.2 with ⟨rfl, h2⟩ | ⟨g, cap, cur, rfl, hg, hh, hc, _⟩
  · have := List.eq_nil_of_length_eq_zero h2
    subst this
    exact ⟨none, 0, rfl, Or.inl rfl⟩
  · refine ⟨some ⟨g, 0, none⟩, cap, rfl, Or.inr ⟨g, 0, rfl, (Array.getElem?_eq_some_iff.1 hh).1, fun i hi => ?_⟩⟩
    have := World.ownsRow.cellAt h i (by omega)
    rw [Nat.zero_add, this]
    simp [sv, hi]

/-- slices.Clone of strings: not nil -/
theorem cloneS_some (ad : Addr) (k : List ByteArray) (c : Nat) (w : World) (hlt : ∀ j, j < k.length → ad.block < w.heap.size) (hk : k.length ≤ 5000000) (hc : ∀ j (hj : j < k.length), w.cell? (ad.add j) = some (.string k[j])) :
    Calls Yba.prog 7 #[.slice (some ad) k.length c] w fun e w' => ∃ a c, e = .returned (.slice a k.length c) ∧ RdS w' a k ∧ Below w.heap.size w w' := by
  have hn := fun (w : World) => Lib.run_eql_slice_nil (P := Yba.prog) w 23 9 (some ad) k.length c 0 0 Yba.underlying23
  obtain ⟨i0, hi, hz0, hz1, hz2⟩ := info_parts info9
  have HC : Hid (∀ j u, (sv k)[j]? = some u → (w.alloc (.cells #[] 9)).cell? (ad.add j) = some u) := fun j u hj => by
    have hj' : j < k.length := by
      have := (List.getElem?_eq_some_iff.1 hj).1
      simpa [sv] using this
    rw [(World.cell?_alloc_lt w _ (ad.add j) (by rw [add_block]; exact hlt j hj')).trans (hc j hj')]
    simp only [sv, List.getElem?_map, List.getElem?_eq_getElem hj', Option.map_some, Option.some.injEq] at hj
    rw [hj]
  have hb0 : Hid ((w.alloc (.cells #[] 9)).ownsRow w.heap.size 9 1 (.slice (some ⟨w.heap.size, 0, none⟩) 0 0) 0 []) := World.ownsRow_lit w #[] 0 (Nat.le_refl _) (by unfold maxLen; omega) rfl
  have HO : Hid (∀ u ∈ sv k, u.oneCell' = true) := fun u hu => by
    simp only [sv, List.mem_map] at hu
    obtain ⟨b, _, rfl⟩ := hu
    rfl
  have HL : (sv k).length = k.length * 1 := by simp [sv]
  clear hc
  go_enter Yba.func7, Yba.ntmps7
  go_wp2_with (at_builtin; refine wpList_append_own _ rfl (.tmp 5) (.tmp 6) 23 rfl w.heap.size 9 i0 (.string ⟨#[]⟩) 1 16 Yba.underlying23 hi hz0 hz1 hz2 rfl (by decide) (.slice (some ⟨w.heap.size, 0, none⟩) 0 0) 0 [] rfl hb0.out ad k.length c (sv k) rfl HL HC.out HO.out (by unfold maxLen; omega) (by omega) (by simp) ?_; intro v1 w1 h1 b1 _)
  simp only [Nat.zero_add, List.nil_append] at h1
  obtain ⟨a, c', rfl, hr⟩ := owned_shape h1
  have hb : Below w.heap.size w w1 := ((Below.refl _ _).alloc (Nat.le_refl _) _).grown b1 (by simp) (fun q hq => Nat.le_of_eq (by simpa [Value.ownBlock] using hq))
  go_ret
  exact ⟨_, _, rfl, hr, hb⟩
end Go.Proofs.Ybulkdvvq
