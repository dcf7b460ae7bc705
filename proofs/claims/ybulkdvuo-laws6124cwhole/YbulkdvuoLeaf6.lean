import Derived.Test.YbulkdvuoLeaf5
namespace Go.Proofs.Ybulkdvuo
open Go.RowKit
set_option linter.unusedSimpArgs false

/-- a slice that reads as these ints -/
def RdI (w : World) (a : Option Addr) (l : List Int) : Prop := l = [] ∨ ∃ b off, a = some ⟨b, off, none⟩ ∧ b < w.heap.size ∧ ∀ i (hi : i < l.length), w.cell? ⟨b, off + i, none⟩ = some (.int .i64 l[i])
/-- r is the first place of v in l, or -1 -/
def Ix (l : List Int) (v r : Int) : Prop := (∃ k : Nat, ∃ hk : k < l.length, r = k ∧ l[k] = v ∧ ∀ j (hj : j < l.length), j < k → l[j] ≠ v) ∨ (r = -1 ∧ ∀ j (hj : j < l.length), l[j] ≠ v)
theorem Ix.uniq {l : List Int} {v r s : Int} (h : Ix l v r) (h' : Ix l v s) : r = s := by
  rcases h with ⟨k, hk, rfl, e, f⟩ | ⟨rfl, f⟩
  · rcases h' with ⟨k', hk', rfl, e', f'⟩ | ⟨rfl, f'⟩
    · rcases Nat.lt_trichotomy k k' with c | c | c
      · exact absurd e (f' k hk c)
      · rw [c]
      · exact absurd e' (f k' hk' c)
    · exact absurd e (f' k hk)
  · rcases h' with ⟨k', hk', rfl, e', f'⟩ | ⟨rfl, f'⟩
    · exact absurd e' (f k' hk')
    · rfl
theorem Ix.lt {l : List Int} {v r : Int} (h : Ix l v r) : -1 ≤ r ∧ r < l.length := by
  rcases h with ⟨k, hk, rfl, _, _⟩ | ⟨rfl, _⟩ <;> omega

set_option maxRecDepth 20000 in
/-- slices.Index of ints -/
theorem indexI_any (a : Option Addr) (c : Nat) (l : List Int) (v : Int) (w : World) (hl : l.length ≤ 1000000) (hr : RdI w a l) :
    Calls Yba.prog 31 #[.slice a l.length c, .int .i64 v] w fun e w' => ∃ r, e = .returned (.int .i64 r) ∧ Ix l v r ∧ w' = w := by
  have HR : Hid (RdI w a l) := hr
  clear hr
  go_enter Yba.func31, Yba.ntmps31
  go_wp2_with fail
  go_loopw [8] (fun i wr => ∃ (k : Nat), k ≤ l.length ∧ i = .int .i64 k ∧ Hid (∀ j (hj : j < l.length), j < k → l[j] ≠ v) ∧ wr = w) (fun i _ => l.length - (intOf i).toNat)
  case atStart => exact ⟨0, Nat.zero_le _, rfl, (fun j _ h => by omega), rfl⟩
  case round =>
    obtain ⟨k, hk, rfl, HF, hww⟩ := hrel
    have hww := hww.symm
    subst hww
    by_cases hlt : k < l.length
    · rcases HR.out with hn | ⟨b, off, rfl, hb, hc⟩
      · rw [hn] at hlt; simp at hlt
      have c1 := hc k hlt
      clear hc
      by_cases he : v = l[k]
      · have he' : (v == l[k]) = true := by simp [he]
        have HE : Hid (v = l[k]) := he
        clear he
        go_wp2_with fail
        go_ret
        exact ⟨_, rfl, Or.inl ⟨k, hlt, rfl, HE.out.symm, HF.out⟩, rfl⟩
      · have he' : (v == l[k]) = false := by simp [he]
        have HE : Hid (¬ v = l[k]) := he
        clear he
        go_wp2_with fail
        go_roundw
        case rel =>
          refine ⟨k + 1, by omega, by go_num, fun j hj hjk => ?_, trivial⟩
          by_cases h : j = k
          · subst h; exact fun e => HE.out e.symm
          · exact HF.out j hj (by omega)
        case measure => simp [intOf]; omega
    · have HL : Hid (¬ k < l.length) := hlt
      go_wp2_with fail
      go_ret
      exact ⟨_, rfl, Or.inr ⟨rfl, fun j hj => HF.out j hj (by have := HL.out; omega)⟩, rfl⟩
end Go.Proofs.Ybulkdvuo
