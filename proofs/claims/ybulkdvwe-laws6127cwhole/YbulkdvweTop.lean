import Derived.Test.YbulkdvweLaw
import Derived.ProofKit
import Derived.OpenShut
import Derived.ChangeSlices
import Derived.Deep.Slices
import Derived.Carry
namespace Go.Proofs.Ybulkdvwe
open Go.ChangeShapes Go.WideShapes Go.ChangeAt Go.RowKit
open Extern.Stop (cell)
set_option linter.unusedVariables false
set_option linter.unusedSimpArgs false

theorem cells40 : Yba.prog.cellsOf 40 = 20 := by kernel_rfl
theorem cells5 : Yba.prog.cellsOf 5 = 1 := by kernel_rfl
theorem cells58 : Yba.prog.cellsOf 58 = 24 := by kernel_rfl
theorem cells56 : Yba.prog.cellsOf 56 = 1 := by kernel_rfl
theorem cells2 : Yba.prog.cellsOf 2 = 1 := by kernel_rfl

section
variable {H : Type} {enc : TypeId × Value → H} {w : World} {base : Nat} {spare : Nat → Bool} {held : Bool} {fuel : Nat} {cs : List Value} {x : DataW H × List MemPlace}
/-- an array of twenty bytes, opened -/
theorem open_arr (h : DataW.trod enc Yba.prog w base spare held fuel 40 cs = some x) : ∃ ids : List UInt8, cs = ids.map cell ∧ ids.length = 20 := by
  obtain ⟨xs, m, _, _, hl, hx, he⟩ := DataW.trod_array Yba.underlying40 h
  rw [cells40] at hl
  refine ⟨cs.map (fun v => UInt8.ofNat (intOf v).toNat), ?_, by rw [List.length_map, hl]⟩
  rw [List.map_map]
  apply List.ext_getElem (by simp)
  intro i hi _
  have h1 := he i (by omega)
  rw [cells5, Nat.mul_one, List.getElem?_eq_getElem (by omega)] at h1
  obtain ⟨n, hn, _, hwf⟩ := DataW.trod_int Yba.underlying5 h1
  have hc : cs[i] = .int .u8 n := by
    have := congrArg (fun l => l[0]?) hn
    simpa [List.getElem?_take, List.getElem?_drop, hi] using this
  have hb : 0 ≤ n ∧ n ≤ 255 := by simpa [Lit.wf, IntKind.min, IntKind.max, IntKind.signed, IntKind.bits] using hwf
  simp only [List.getElem_map, Function.comp_apply, hc, intOf, cell, UInt8.toNat_ofNat']
  have hm : ((n.toNat % 2 ^ 8 : Nat) : Int) = n := by omega
  exact congrArg (Value.int .u8) hm.symm
/-- one of the given entries, opened -/
theorem open_ent (h : DataW.trod enc Yba.prog w base spare held fuel 58 cs = some x) : ∃ e : Ent, cs = e.cells ∧ e.ok := by
  obtain ⟨xs, m, _, _, hl, hx, he⟩ := DataW.trod_struct Yba.underlying58 h
  rw [cells58] at hl
  have hx' : xs.length = 5 := hx
  have h0 : DataW.trod enc Yba.prog w base spare held m 5 ((cs.drop 0).take (Yba.prog.cellsOf 5)) = xs[0]? := he 0 _ rfl
  rw [cells5] at h0
  have h1 : DataW.trod enc Yba.prog w base spare held m 40 ((cs.drop 1).take (Yba.prog.cellsOf 40)) = xs[1]? := he 1 _ rfl
  rw [cells40] at h1
  have h2 : DataW.trod enc Yba.prog w base spare held m 56 ((cs.drop 21).take (Yba.prog.cellsOf 56)) = xs[2]? := he 2 _ rfl
  rw [cells56] at h2
  have h3 : DataW.trod enc Yba.prog w base spare held m 2 ((cs.drop 22).take (Yba.prog.cellsOf 2)) = xs[3]? := he 3 _ rfl
  rw [cells2] at h3
  have h4 : DataW.trod enc Yba.prog w base spare held m 2 ((cs.drop 23).take (Yba.prog.cellsOf 2)) = xs[4]? := he 4 _ rfl
  rw [cells2] at h4
  rw [List.getElem?_eq_getElem (by omega)] at h0 h1 h2 h3 h4
  obtain ⟨b, e0, _, w0⟩ := DataW.trod_int Yba.underlying5 h0
  obtain ⟨ids, e1, hil⟩ := open_arr h1
  obtain ⟨p, e2, _, w2⟩ := DataW.trod_int Yba.underlying56 h2
  obtain ⟨an, e3, _, w3⟩ := DataW.trod_int Yba.underlying2 h3
  obtain ⟨qu, e4, _, w4⟩ := DataW.trod_int Yba.underlying2 h4
  have b0 : 0 ≤ b ∧ b ≤ 255 := by simpa [Lit.wf, IntKind.min, IntKind.max, IntKind.signed, IntKind.bits] using w0
  have b3 : -9223372036854775808 ≤ an ∧ an ≤ 9223372036854775807 := by simpa [Lit.wf, IntKind.min, IntKind.max, IntKind.signed, IntKind.bits] using w3
  have b4 : -9223372036854775808 ≤ qu ∧ qu ≤ 9223372036854775807 := by simpa [Lit.wf, IntKind.min, IntKind.max, IntKind.signed, IntKind.bits] using w4
  refine ⟨⟨b, ids, p, an, qu⟩, ?_, ⟨b0.1, Int.lt_of_le_of_lt b0.2 (by decide)⟩, hil, b3, b4⟩
  have hs : cs = (cs.drop 0).take 1 ++ ((cs.drop 1).take 20 ++ ((cs.drop 21).take 1 ++ ((cs.drop 22).take 1 ++ (cs.drop 23).take 1))) := by
    have t4 : (cs.drop 23).take 1 = cs.drop 23 := List.take_of_length_le (by rw [List.length_drop]; omega)
    have t3 : (cs.drop 22).take 1 ++ cs.drop 23 = cs.drop 22 := by
      have := List.take_append_drop 1 (cs.drop 22); rwa [List.drop_drop] at this
    have t2 : (cs.drop 21).take 1 ++ cs.drop 22 = cs.drop 21 := by
      have := List.take_append_drop 1 (cs.drop 21); rwa [List.drop_drop] at this
    have t1 : (cs.drop 1).take 20 ++ cs.drop 21 = cs.drop 1 := by
      have := List.take_append_drop 20 (cs.drop 1); rwa [List.drop_drop] at this
    rw [t4, t3, t2, t1]
    have := List.take_append_drop 1 cs
    simpa using this.symm
  rw [hs, e0, e1, e2, e3, e4]
  rfl
end
/-- the row out of its elements -/
theorem flat_of {w : World} {b n : Nat} {f : Ent → List Value} : ∀ {l : List Ent} {o : Nat}, (∀ x ∈ l, (f x).length = n) → (∀ i x, l[i]? = some x → w.rangeAt b (o + i * n) (f x)) → w.rangeAt b o (l.flatMap f)
  | [], o, _, _ => fun j v hj => by simp at hj
  | x :: l, o, hf, h => by
    rw [List.flatMap_cons]
    refine rangeAt_join (by simpa using h 0 x rfl) ?_
    rw [hf x (by simp)]
    refine flat_of (fun y hy => hf y (by simp [hy])) (fun i y hi => ?_)
    have := h (i + 1) y (by simpa using hi)
    rwa [Nat.add_mul, Nat.one_mul, Nat.add_comm (i * n), ← Nat.add_assoc] at this
theorem spot_none {w : World} {a : Addr} {v : Value} (h : w.cell? a = some v) : a.spot = none := by
  unfold World.cell? at h
  split at h
  · by_cases hs : a.spot.isSome
    · simp [hs] at h
    · simpa using hs
  · cases h
theorem add_some {a : Addr} {j : Nat} (h : a.spot = none) : a.add j = ⟨a.block, a.off + j, none⟩ := by
  obtain ⟨b, o, s⟩ := a
  subst h
  exact Addr.add_mid b o j
/-- the argument ents, opened -/
theorem ents_of {H : Type} {enc : TypeId × Value → H} {W : World} {v : Value} {d : DataW H} {p : List MemPlace} (hv : ∃ a len cap, v = .slice a len cap) (h : DataW.Trod enc Yba.prog W 0 (fun _ => true) true 41 v d p) :
    ∃ (es : List Ent) (ad : Option Addr) (cap : Nat), v = .slice ad es.length cap ∧ (∀ x ∈ es, x.ok) ∧ es.length ≤ 9223372036854775807 ∧
      (0 < es.length → ∃ be off, ad = some ⟨be, off, none⟩ ∧ be < W.heap.size ∧ W.rangeAt be off (es.flatMap Ent.cells)) := by
  obtain ⟨fuel, hf⟩ := h
  obtain ⟨a, len, cap, rfl⟩ := hv
  rcases Go.Deep.open_slice Yba.underlying41 hf with ⟨hcs, _⟩ | ⟨ad, len', cap', m, n, D, Pl, hcs, _, hl, hm, hmm, _, hx⟩
  · simp [Value.cells] at hcs
    obtain ⟨rfl, rfl, rfl⟩ := hcs
    exact ⟨[], none, 0, rfl, by simp, by simp, fun h => absurd h (Nat.lt_irrefl 0)⟩
  · simp [Value.cells] at hcs
    obtain ⟨rfl, rfl, rfl⟩ := hcs
    simp only [if_true] at hmm
    rw [cells58] at hx
    obtain ⟨F, hF⟩ := @Go.Deep.choose_lt Ent ⟨⟨0, [], 0, 0, 0⟩⟩ len (fun i e => e.ok ∧ ∀ j v, e.cells[j]? = some v → W.cell? ((ad.add (i * 24)).add j) = some v) (fun i hi => by
      obtain ⟨cs', h1, h2⟩ := hx i (by omega)
      obtain ⟨e, rfl, hok⟩ := open_ent h2
      obtain ⟨_, hlen, hcell⟩ := World.cells?_some h1
      refine ⟨e, hok, fun j v hj => ?_⟩
      have hjl := (List.getElem?_eq_some_iff.1 hj).1
      have := hcell j (by omega)
      rw [this]; exact hj)
    have hel : ((List.range len).map F).length = len := by simp
    refine ⟨(List.range len).map F, some ad, cap, by rw [hel], ?_, by rw [hel]; simp [maxLen] at hm; omega, fun h0 => ?_⟩
    · intro x hx
      obtain ⟨i, hi, rfl⟩ := List.mem_map.1 hx
      exact (hF i (List.mem_range.1 hi)).1
    · rw [hel] at h0
      have hc0 := (hF 0 h0).2 0 (.int .u8 (F 0).b) rfl
      rw [Nat.zero_mul] at hc0
      have ha0 : (ad.add 0).add 0 = ad := by unfold Addr.add; simp
      rw [ha0] at hc0
      have hsp := spot_none hc0
      refine ⟨ad.block, ad.off, by obtain ⟨b, o, s⟩ := ad; simp at hsp; subst hsp; rfl, World.block_lt_of_cell? W _ hc0, ?_⟩
      refine flat_of (n := 24) (fun x hx => ?_) (fun i x hi => ?_)
      · obtain ⟨i, hi, rfl⟩ := List.mem_map.1 hx
        exact Ent.cells_length (hF i (List.mem_range.1 hi)).1
      · have hil : i < len := by have := (List.getElem?_eq_some_iff.1 hi).1; omega
        simp [hil] at hi
        subst hi
        intro j v hj
        have := (hF i hil).2 j v hj
        rwa [add_some hsp, Addr.add_mid] at this
end Go.Proofs.Ybulkdvwe
