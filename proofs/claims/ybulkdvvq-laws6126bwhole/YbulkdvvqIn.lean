import Derived.Test.YbulkdvvqText
namespace Go.Proofs.Ybulkdvvq
open Go.RowKit
set_option linter.unusedSimpArgs false

/-- an argument: a slice of bytes -/
def InB (w : World) (a : Option Addr) (l : List UInt8) (c : Nat) : Prop := (a = none ∧ l = [] ∧ c = 0) ∨ ∃ ad, a = some ad ∧ (∀ j, j < l.length → ad.block < w.heap.size ∧ ad.spot = none) ∧ ∀ j (hj : j < l.length), w.cell? (ad.add j) = some (.int .u8 (l[j].toNat : Int))
/-- an argument: a slice of strings -/
def InS (w : World) (a : Option Addr) (l : List ByteArray) (c : Nat) : Prop := (a = none ∧ l = [] ∧ c = 0) ∨ ∃ ad, a = some ad ∧ (∀ j, j < l.length → ad.block < w.heap.size ∧ ad.spot = none) ∧ ∀ j (hj : j < l.length), w.cell? (ad.add j) = some (.string l[j])
theorem add_flat {ad : Addr} (h : ad.spot = none) (j : Nat) : ad.add j = ⟨ad.block, ad.off + j, none⟩ := by
  obtain ⟨b, o, s⟩ := ad
  simp only at h
  subst h
  unfold Addr.add
  split
  · simp [*]
  · rfl
theorem InS.rd {w : World} {a : Option Addr} {l : List ByteArray} {c : Nat} (h : InS w a l c) : RdS w a l := by
  rcases h with ⟨_, h, _⟩ | ⟨ad, rfl, h1, h2⟩
  · exact Or.inl h
  · by_cases h0 : l.length = 0
    · exact Or.inl (List.eq_nil_of_length_eq_zero h0)
    · have hs := h1 0 (by omega)
      refine Or.inr ⟨ad.block, ad.off, ?_, hs.1, fun i hi => ?_⟩
      · obtain ⟨b, o, s⟩ := ad
        have := hs.2
        simp only at this
        subst this
        rfl
      · rw [← add_flat hs.2]; exact h2 i hi
theorem InB.kept {w w' : World} {a : Option Addr} {l : List UInt8} {c : Nat} (h : InB w a l c) (hb : Below w.heap.size w w') : InB w' a l c := by
  rcases h with h | ⟨ad, rfl, h1, h2⟩
  · exact Or.inl h
  · refine Or.inr ⟨ad, rfl, fun j hj => ⟨Nat.lt_of_lt_of_le (h1 j hj).1 hb.size, (h1 j hj).2⟩, fun j hj => ?_⟩
    rw [← h2 j hj]
    exact hb.cell (by rw [add_block]; exact (h1 j hj).1)
theorem RdS.kept {w w' : World} {B : Nat} {a : Option Addr} {l : List ByteArray} (h : RdS w a l) (hb : Below B w w') (hB : w.heap.size ≤ B) : RdS w' a l := by
  rcases h with h | ⟨b, off, h0, h1, h2⟩
  · exact Or.inl h
  · refine Or.inr ⟨b, off, h0, Nat.lt_of_lt_of_le h1 (by have := hb.size; omega), fun i hi => ?_⟩
    rw [← h2 i hi]
    exact hb.cell (show b < B by omega)
theorem cloneB_any (da : Option Addr) (l : List UInt8) (dc : Nat) (w : World) (hd : InB w da l dc) (hk : l.length ≤ 50000000) :
    Calls Yba.prog 6 #[.slice da l.length dc] w fun e w' => ∃ v', e = .returned v' ∧ Byt w' w.heap.size v' l ∧ Below w.heap.size w w' := by
  rcases hd with ⟨rfl, rfl, rfl⟩ | ⟨ad, rfl, h1, h2⟩
  · exact cloneB_nil w w.heap.size
  · exact cloneB_some ad l dc w (fun j hj => (h1 j hj).1) hk h2
theorem cloneS_any (sa : Option Addr) (l : List ByteArray) (sc : Nat) (w : World) (hd : InS w sa l sc) (hk : l.length ≤ 5000000) :
    Calls Yba.prog 7 #[.slice sa l.length sc] w fun e w' => ∃ a c, e = .returned (.slice a l.length c) ∧ RdS w' a l ∧ Below w.heap.size w w' := by
  rcases hd with ⟨rfl, rfl, rfl⟩ | ⟨ad, rfl, h1, h2⟩
  · exact cloneS_nil w
  · exact cloneS_some ad l sc w (fun j hj => (h1 j hj).1) hk h2
theorem InS.kept {w w' : World} {a : Option Addr} {l : List ByteArray} {c : Nat} (h : InS w a l c) (hb : Below w.heap.size w w') : InS w' a l c := by
  rcases h with h | ⟨ad, rfl, h1, h2⟩
  · exact Or.inl h
  · refine Or.inr ⟨ad, rfl, fun j hj => ⟨Nat.lt_of_lt_of_le (h1 j hj).1 hb.size, (h1 j hj).2⟩, fun j hj => ?_⟩
    rw [← h2 j hj]
    exact hb.cell (by rw [add_block]; exact (h1 j hj).1)
section
variable {ops : Array Oper} {rest : List Oper} {o : Oper} {a : Act} {Q : Exit → Act → World → Prop}
/-- 'append(nil, dst...)' -/
theorem app_dst (w : World) (hgd : o.guard = none) (s x : Operand) (ho : o.op = .call { callee := .builtin .append, args := #[s, x], argTypes := #[22, 22] })
    (B : Nat) (da : Option Addr) (dc : Nat) (l : List UInt8) (hs : a.eval s = .slice none 0 0) (hx : a.eval x = .slice da l.length dc) (hd : InB w da l dc) (hB : B ≤ w.heap.size) (hlen : l.length ≤ 100000000)
    (h : ∀ v' w', Byt w' B v' l → Below B w w' → wpList Yba.prog ops Q rest (a.put o.dst v') w') : wpList Yba.prog ops Q (o :: rest) a w := by
  rcases hd with ⟨rfl, rfl, rfl⟩ | ⟨ad, rfl, h1, h2⟩
  · exact app_none w hgd s x ho B _ [] hs hx (Byt.nil _ _) (h _ _ (Byt.nil _ _) (Below.refl _ _))
  · refine app_bytes w hgd s x ho B _ [] l ad l.length dc hs hx rfl h2 (Byt.nil _ _) hB (by simpa using hlen) ?_
    intro v' w' h3 h4
    exact h v' w' h3 (h4.below hB (fun k hk => by simp [Value.ownBlock] at hk))
end
/-- the sum of the first k -/
def psum (l : List ByteArray) (k : Nat) : Nat := ((l.map ByteArray.size).take k).sum
theorem psum_le (l : List ByteArray) (k : Nat) : psum l k ≤ tot l := sum_take_le _ k
theorem psum_all (l : List ByteArray) : psum l l.length = tot l := by unfold psum tot; rw [List.take_of_length_le (by simp)]
theorem psum_succ (l : List ByteArray) (k : Nat) (h : k < l.length) : psum l k + l[k].size = psum l (k + 1) := by
  have := sum_getD (l.map ByteArray.size) k
  have h3 : (l.map ByteArray.size).getD k 0 = l[k].size := by simp [h]
  unfold psum
  omega
end Go.Proofs.Ybulkdvvq
