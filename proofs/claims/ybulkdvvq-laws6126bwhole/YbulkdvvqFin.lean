import Derived.Test.YbulkdvvqIn
import Derived.Deep.OwnRows
import Derived.Deep.CutBlock
namespace Go.Proofs.Ybulkdvvq
open Go.RowKit
set_option linter.unusedSimpArgs false

theorem info39 : (Yba.prog.info? 39).map (fun i => (i.zero, i.size, i.bytes)) = some (some .nilIface, 1, 16) := by kernel_rfl
/-- the row of expressions after k rounds -/
def expRow (g k : Nat) : Nat → Value := fun j => if j < k then .iface 27 (.pointer (some ⟨g + 1 + j, 0, none⟩)) else .nilIface
theorem expRow_set {w : World} {g n k : Nat} (h : w.rowIs g 39 n (expRow g k)) : (w.setCell ⟨g, k, none⟩ (.iface 27 (.pointer (some ⟨g + 1 + k, 0, none⟩)))).rowIs g 39 n (expRow g (k + 1)) :=
  (h.set k _).congr (fun i _ => by
    unfold expRow
    by_cases h1 : i = k
    · subst h1; simp
    · by_cases h2 : i < k
      · simp [h1, h2, Nat.lt_succ_of_lt h2]
      · have : ¬ i < k + 1 := by omega
        simp [h1, h2, this])
theorem exp_cells {wr : World} {g k : Nat} {v : Value} {c : Array Value} {ps : List ByteArray} (hz : wr.heap.size = g + 1 + k) (hk : k < ps.length)
    (hC : ∀ j (hj : j < ps.length), j < k → wr.cell? ⟨g + 1 + j, 0, none⟩ = some (.string ps[j])) (hc : c[0]? = some (.string ps[k])) :
    ∀ j (hj : j < ps.length), j < k + 1 → ((wr.setCell ⟨g, k, none⟩ v).alloc (.cells c 37)).cell? ⟨g + 1 + j, 0, none⟩ = some (.string ps[j]) := by
  intro j hj hjk
  by_cases h : j = k
  · subst h
    rw [World.cell?_alloc_at _ _ _ _ (by simp [hz])]
    exact hc
  · have hne : (⟨g, k, none⟩ : Addr) ≠ ⟨g + 1 + j, 0, none⟩ := fun e => by injection e with e1; omega
    rw [World.cell?_alloc_past _ _ _ (by simp [hz]; omega), World.cell?_setCell_other (h := hne)]
    exact hC j hj (by omega)
theorem cell_lt {w : World} {a : Addr} {v : Value} (h : w.cell? a = some v) : a.block < w.heap.size := by
  by_cases hb : a.block < w.heap.size
  · exact hb
  · simp [World.cell?, Array.getElem?_eq_none (Nat.le_of_not_lt hb)] at h
theorem RdB.kept {w w' : World} {B : Nat} {a : Option Addr} {l : List UInt8} (h : RdB w a l) (hb : Below B w w') (hB : w.heap.size ≤ B) : RdB w' a l := by
  rcases h with h | ⟨b, off, h0, h2⟩
  · exact Or.inl h
  · refine Or.inr ⟨b, off, h0, fun i hi => ?_⟩
    have hlt : b < w.heap.size := cell_lt (h2 i hi)
    rw [← h2 i hi]
    exact hb.cell (show b < B by omega)
theorem Byt.rdb {w : World} {B : Nat} {v : Value} {l : List UInt8} (h : Byt w B v l) : ∃ a c, v = .slice a l.length c ∧ RdB w a l := by
  rcases h.shape with ⟨rfl, rfl⟩ | ⟨g, cap, rfl, _, _, _, hc⟩
  · exact ⟨none, 0, rfl, Or.inl rfl⟩
  · exact ⟨_, cap, rfl, Or.inr ⟨g, 0, rfl, fun i hi => by rw [Nat.zero_add]; exact hc i hi⟩⟩
/-- a slice that was appended to still reads as it did -/
theorem Byt.rdb_old {w w' : World} {B : Nat} {v v' : Value} {l : List UInt8} (h : Byt w B v l) (x : Ext w w' v v') : ∃ a c, v = .slice a l.length c ∧ RdB w' a l := by
  rcases h.shape with ⟨rfl, rfl⟩ | ⟨g, cap, rfl, _, hg, _, hc⟩
  · exact ⟨none, 0, rfl, Or.inl rfl⟩
  · exact ⟨_, cap, rfl, Or.inr ⟨g, 0, rfl, fun i hi => by rw [Nat.zero_add, x.head g i rfl hg hi]; exact hc i hi⟩⟩

/-- what the end compares -/
structure Fin6 (w : World) (got work og : Value) (L l : List UInt8) (spa sa pa da : Option Addr) (sp ps : List ByteArray) (dc sb : Nat) (esc amp : Bool) : Prop where
  g1 : ∃ a c, got = .slice a L.length c ∧ RdB w a L
  g2 : ∃ a c, work = .slice a l.length c ∧ RdB w a l
  g3 : ∃ a c, og = .slice a l.length c ∧ RdB w a l
  s1 : RdS w spa sp
  s2 : RdS w sa sp
  p1 : RdS w pa ps
  d1 : InB w da l dc
  c2 : w.cell? ⟨sb, 2, none⟩ = some (.bool esc)
  c3 : w.cell? ⟨sb, 3, none⟩ = some (.bool amp)
theorem Fin6.kept {w w' : World} {got work og : Value} {L l : List UInt8} {spa sa pa da : Option Addr} {sp ps : List ByteArray} {dc sb : Nat} {esc amp : Bool} (h : Fin6 w got work og L l spa sa pa da sp ps dc sb esc amp) (hb : Below w.heap.size w w') :
    Fin6 w' got work og L l spa sa pa da sp ps dc sb esc amp := by
  obtain ⟨⟨a1, k1, e1, r1⟩, ⟨a2, k2, e2, r2⟩, ⟨a3, k3, e3, r3⟩, s1, s2, p1, d1, c2, c3⟩ := h
  exact ⟨⟨a1, k1, e1, r1.kept hb (Nat.le_refl _)⟩, ⟨a2, k2, e2, r2.kept hb (Nat.le_refl _)⟩, ⟨a3, k3, e3, r3.kept hb (Nat.le_refl _)⟩, s1.kept hb (Nat.le_refl _), s2.kept hb (Nat.le_refl _), p1.kept hb (Nat.le_refl _), d1.kept hb,
    (hb.cell (p := ⟨sb, 2, none⟩) (cell_lt c2)).trans c2, (hb.cell (p := ⟨sb, 3, none⟩) (cell_lt c3)).trans c3⟩

/-- the space ahead of argument i, as a string -/
def spcB (sp : List ByteArray) (i : Nat) : ByteArray := if (sp.getD i ⟨#[]⟩).data.toList = [] then ⟨#[32]⟩ else sp.getD i ⟨#[]⟩
theorem spcB_spc (sp : List ByteArray) (i : Nat) : (spcB sp i).data.toList = spc sp i := by
  unfold spcB spc; split <;> rfl
theorem spcB_size (sp : List ByteArray) (i : Nat) : (spcB sp i).size ≤ 1 + tot sp := by
  rw [Lib.size_eq, spcB_spc]
  have h1 := spc_len sp i
  have h2 := sum_getD (sp.map ByteArray.size) i
  have h3 := sum_take_le (sp.map ByteArray.size) (i + 1)
  unfold tot
  omega
def spRow1 (k : Nat) : Nat → Value := fun j => if j < k then .string ⟨#[32]⟩ else .string ⟨#[]⟩
def spRow2 (sp : List ByteArray) (k : Nat) : Nat → Value := fun j => .string (if j < k then spcB sp j else ⟨#[32]⟩)
theorem spRow1_set {w : World} {g n k : Nat} (h : w.rowIs g 9 n (spRow1 k)) : (w.setCell ⟨g, k, none⟩ (.string ⟨#[32]⟩)).rowIs g 9 n (spRow1 (k + 1)) :=
  (h.set k _).congr (fun i _ => by
    unfold spRow1
    by_cases h1 : i = k
    · subst h1; simp
    · by_cases h2 : i < k
      · simp [h1, h2, Nat.lt_succ_of_lt h2]
      · have : ¬ i < k + 1 := by omega
        simp [h1, h2, this])
theorem spRow2_set {w : World} {g n k : Nat} {sp : List ByteArray} (h : w.rowIs g 9 n (spRow2 sp k)) (hk : k < sp.length) (he : sp[k].data.toList ≠ []) : (w.setCell ⟨g, k, none⟩ (.string sp[k])).rowIs g 9 n (spRow2 sp (k + 1)) :=
  (h.set k _).congr (fun i _ => by
    unfold spRow2
    by_cases h1 : i = k
    · subst h1
      have : spcB sp i = sp[i] := by unfold spcB; simp [hk, he]
      simp [this]
    · by_cases h2 : i < k
      · simp [h1, h2, Nat.lt_succ_of_lt h2]
      · have : ¬ i < k + 1 := by omega
        simp [h1, h2, this])
theorem spRow2_skip {w : World} {g n k : Nat} {sp : List ByteArray} (h : w.rowIs g 9 n (spRow2 sp k)) (hk : k < sp.length) (he : sp[k].data.toList = []) : w.rowIs g 9 n (spRow2 sp (k + 1)) :=
  h.congr (fun i _ => by
    unfold spRow2
    by_cases h1 : i = k
    · subst h1
      have : spcB sp i = ⟨#[32]⟩ := by unfold spcB; simp [hk, he]
      simp [this]
    · by_cases h2 : i < k
      · simp [h2, Nat.lt_succ_of_lt h2]
      · have : ¬ i < k + 1 := by omega
        simp [h2, this])
theorem spRow2_end {w : World} {g n k : Nat} {sp : List ByteArray} (h : w.rowIs g 9 n (spRow2 sp k)) (hk : sp.length ≤ k ∨ n ≤ k) : w.rowIs g 9 n (fun j => .string (spcB sp j)) :=
  h.congr (fun i hi => by
    unfold spRow2
    by_cases h2 : i < k
    · simp [h2]
    · have : spcB sp i = ⟨#[32]⟩ := by unfold spcB; simp [List.getElem?_eq_none (show sp.length ≤ i by omega)]
      simp [h2, this])
section
variable {ops : Array Oper} {rest : List Oper} {o : Oper} {a : Act} {Q : Exit → Act → World → Prop}
/-- 'append(v, c)', c one byte -/
theorem app_one (w : World) (hgd : o.guard = none) (s x : Operand) (ho : o.op = .call { callee := .builtin .append, args := #[s, x], argTypes := #[22, 22] })
    (B : Nat) (v : Value) (l : List UInt8) (c : UInt8) (z : Int) (hz : z = (c.toNat : Int)) (hs : a.eval s = v) (hx : a.eval x = .slice (some ⟨w.heap.size, 0, none⟩) 1 1) (hown : Byt w B v l) (hB : B ≤ w.heap.size) (hlen : l.length + 1 ≤ 100000000)
    (h : ∀ v' w', Byt w' B v' (l ++ [c]) → Below B w w' → wpList Yba.prog ops Q rest (a.put o.dst v') w') : wpList Yba.prog ops Q (o :: rest) a (w.alloc (.cells #[.int .u8 z] 5)) := by
  have h1 : Byt (w.alloc (.cells #[.int .u8 z] 5)) B v l := hown.kept ((Below.refl _ _).alloc (Nat.le_refl _) _) (Nat.le_refl _)
  refine app_bytes _ hgd s x ho B v l [c] ⟨w.heap.size, 0, none⟩ 1 1 hs hx rfl ?_ h1 (by simp; omega) hlen ?_
  · intro j hj
    obtain rfl : j = 0 := by simpa using hj
    subst hz
    simp [Addr.add]
  · intro v' w' h3 h4
    exact h v' w' h3 (((Below.refl _ _).alloc hB _).trans (h4.below (by simp; omega) h1.block))
end
/-- the mode -/
def modeOf (esc amp : Bool) : Int := if esc then 0 else if amp then 1 else 2
def headS (esc amp : Bool) : ByteArray := if esc then ⟨#[123, 123]⟩ else if amp then ⟨#[123, 123, 38]⟩ else ⟨#[123, 123, 123]⟩
theorem headS_size (esc amp : Bool) : (headS esc amp).size ≤ 3 := by cases esc <;> cases amp <;> decide
theorem clS_size (esc amp : Bool) : (clS esc amp).size ≤ 3 := by cases esc <;> cases amp <;> decide
/-- what stands ahead of Before -/
def headL (esc amp so : Bool) : List UInt8 := (opS esc amp).data.toList ++ tild so ++ amS esc amp
theorem headL_len (esc amp so : Bool) : (headL esc amp so).length ≤ 5 := by cases esc <;> cases amp <;> cases so <;> decide
theorem tild_len (b : Bool) : (tild b).length ≤ 1 := by cases b <;> decide
theorem head_any (esc amp : Bool) (w : World) : Calls Yba.prog 9 #[.int .i64 (modeOf esc amp)] w fun e w' => e = .returned (.string (headS esc amp)) ∧ w' = w := by
  cases esc <;> cases amp
  · exact head_2 w
  · exact head_1 w
  · exact head_0 w
  · exact head_0 w
theorem end_any (esc amp : Bool) (w : World) : Calls Yba.prog 10 #[.int .i64 (modeOf esc amp)] w fun e w' => e = .returned (.string (clS esc amp)) ∧ w' = w := by
  cases esc <;> cases amp
  · exact end_2 w
  · exact end_1 w
  · exact end_0 w
  · exact end_0 w
end Go.Proofs.Ybulkdvvq
