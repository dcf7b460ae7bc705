import Derived.Test.YbulkdvuoLeaf14
namespace Go.Proofs.Ybulkdvuo
open Go.RowKit
set_option linter.unusedSimpArgs false

/-- how many of the first refs are held -/
def skipIn (held : List Tri) : List Tri → Nat
  | [] => 0
  | t :: r => if t ∈ held then skipIn held r + 1 else 0
theorem skipIn_le (held : List Tri) : ∀ l, skipIn held l ≤ l.length
  | [] => by simp [skipIn]
  | t :: r => by
    have := skipIn_le held r
    unfold skipIn
    split <;> simp <;> omega
/-- notLacked after 'missing' -/
def adv (held ids : List Tri) (k : Nat) : Nat := k + skipIn held (ids.drop k)
theorem adv_step (held ids : List Tri) (k : Nat) (hk : k < ids.length) (h : ids[k] ∈ held) : adv held ids k = adv held ids (k + 1) := by
  unfold adv
  rw [List.drop_eq_getElem_cons hk]
  simp only [skipIn, h, if_true]
  omega
theorem adv_stop (held ids : List Tri) (k : Nat) (hk : k < ids.length) (h : ids[k] ∉ held) : adv held ids k = k := by
  unfold adv
  rw [List.drop_eq_getElem_cons hk]
  simp [skipIn, h]
theorem adv_end (held ids : List Tri) (k : Nat) (hk : ids.length ≤ k) : adv held ids k = k := by
  unfold adv
  rw [List.drop_of_length_le hk]
  simp [skipIn]
/-- what 'missing' answers -/
def lackedFrom (held ids : List Tri) (k : Nat) : List Tri := (ids.drop k).filter (fun t => !decide (t ∈ held))
theorem setCell_self {w : World} {a : Addr} {v : Value} (h : w.cell? a = some v) : (w.setCell a v).heap = w.heap := by
  obtain ⟨b, o, s⟩ := a
  have hb : ∃ c t fr, w.heap[b]? = some (.cells c t fr) ∧ s = none ∧ c[o]? = some v := by
    unfold World.cell? at h
    simp only at h
    split at h
    · rename_i c t fr hc
      by_cases hs : s.isSome
      · simp [hs] at h
      · exact ⟨c, t, fr, hc, by simpa using hs, by simpa [hs] using h⟩
    · cases h
  obtain ⟨c, t, fr, hc, rfl, ho⟩ := hb
  apply Array.ext_getElem?
  intro k
  unfold World.setCell
  simp only [Array.getElem?_modify]
  by_cases hk : b = k
  · subst hk
    rw [hc]
    have : c.setIfInBounds o v = c := by
      apply Array.ext_getElem?
      intro j
      rw [Array.getElem?_setIfInBounds]
      by_cases hj : o = j
      · subst hj
        have hlt : o < c.size := (Array.getElem?_eq_some_iff.1 ho).1
        have hv : c[o] = v := (Array.getElem?_eq_some_iff.1 ho).2
        simp [hlt, hv]
      · simp [hj]
    simp [this]
  · simp [hk]
end Go.Proofs.Ybulkdvuo
