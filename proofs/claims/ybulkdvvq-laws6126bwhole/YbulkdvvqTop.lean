import Derived.Test.YbulkdvvqLong
import Derived.Test.YbulkdvvqFin
import Derived.Test.YbulkdvvqRows
import Derived.ProofKit
import Derived.SizedLaws
import Derived.SliceStrings
import Derived.ChangeSlices
import Derived.OpenShut
import Derived.ShutString
namespace Go.Proofs.Ybulkdvvq
open Go.ChangeShapes Go.WideShapes Go.ChangeAt Go.RowKit
open Go.ChangeMaps (open_string shut_string)
set_option linter.unusedVariables false

theorem cells5 : Yba.prog.cellsOf 5 = 1 := by kernel_rfl
theorem cells9 : Yba.prog.cellsOf 9 = 1 := by kernel_rfl
theorem bytes5 : Yba.prog.bytesOf 5 = 1 := by kernel_rfl
theorem bytes9 : Yba.prog.bytesOf 9 = 16 := by kernel_rfl
theorem spot_none {w : World} {a : Addr} {v : Value} (h : w.cell? a = some v) : a.spot = none := by
  unfold World.cell? at h
  split at h
  · by_cases hs : a.spot.isSome
    · simp [hs] at h
    · simpa using hs
  · cases h
theorem inB_of {H : Type} {enc : TypeId × Value → H} {W : World} {v : Value} {d : DataW H} {p : List MemPlace} (hv : ∃ a len cap, v = .slice a len cap) (h : DataW.Trod enc Yba.prog W 0 (fun _ => true) true 22 v d p)
    (hw : ∀ n ∈ DataW.weights Yba.prog 22 d, n ≤ reachBytes) : ∃ a l c, v = .slice a l.length c ∧ InB W a l c ∧ l.length ≤ reachBytes := by
  obtain ⟨fuel, hf⟩ := h
  obtain ⟨a, len, cap, rfl⟩ := hv
  rcases open_ints Yba.underlying22 Yba.underlying5 cells5 hf with ⟨hcs, hx⟩ | ⟨ad, len', cap', zs, hcs, _, hl, hm, hz, hx, hcell, hwz⟩
  · simp [Value.cells] at hcs
    obtain ⟨rfl, rfl, rfl⟩ := hcs
    exact ⟨none, [], 0, rfl, Or.inl ⟨rfl, rfl, rfl⟩, Nat.zero_le _⟩
  · simp [Value.cells] at hcs
    obtain ⟨rfl, rfl, rfl⟩ := hcs
    simp only [if_true] at hz
    have hlz : len ≤ zs.length := by omega
    have hll : ((zs.take len).map (fun n => UInt8.ofNat n.toNat)).length = len := by simp; omega
    have hcl : ∀ j (hj : j < ((zs.take len).map (fun n => UInt8.ofNat n.toNat)).length), W.cell? (ad.add j) = some (.int .u8 ((((zs.take len).map (fun n => UInt8.ofNat n.toNat))[j]).toNat : Int)) := by
      intro j hj
      have hj' : j < zs.length := by omega
      rw [hcell j hj']
      have hb := hwz zs[j] (List.getElem_mem hj')
      simp [Lit.wf, IntKind.min, IntKind.max, IntKind.signed, IntKind.bits] at hb
      have hd : zs.getD j 0 = zs[j] := by simp [hj']
      rw [hd]
      simp only [List.getElem_map, List.getElem_take, UInt8.toNat_ofNat']
      congr 2
      omega
    refine ⟨some ad, _, cap, by rw [hll], Or.inr ⟨ad, rfl, fun j hj => ?_, hcl⟩, ?_⟩
    · have h0 : W.cell? ad = _ := hcl 0 (by omega)
      exact ⟨cell_lt h0, spot_none h0⟩
    · simp only [Prod.mk.injEq] at hx
      have := hw (((lits (H := H) .u8 (zs.take len)).length + (lits (H := H) .u8 (zs.drop len)).length) * Yba.prog.bytesOf 5) (by rw [hx.1]; simp [DataW.weights, Yba.underlying22])
      rw [bytes5] at this
      simp [lits] at this
      rw [hll]
      omega
theorem mem_weightsAll {H : Type} (ss : List ByteArray) : ∀ s ∈ ss, s.size ∈ DataW.weightsAll Yba.prog 9 (strs (H := H) ss) := by
  induction ss with
  | nil => intro s hs; simp at hs
  | cons x r ih =>
    intro s hs
    simp only [strs, List.map_cons, DataW.weightsAll, DataW.weights, List.mem_append]
    rcases List.mem_cons.1 hs with rfl | h
    · exact Or.inl (List.mem_singleton.2 (Lib.size_eq _))
    · exact Or.inr (ih s h)
theorem inS_of {H : Type} {enc : TypeId × Value → H} {W : World} {v : Value} {d : DataW H} {p : List MemPlace} (hv : ∃ a len cap, v = .slice a len cap) (h : DataW.Trod enc Yba.prog W 0 (fun _ => true) true 23 v d p)
    (hw : ∀ n ∈ DataW.weights Yba.prog 23 d, n ≤ reachBytes) : ∃ a l c, v = .slice a l.length c ∧ InS W a l c ∧ l.length ≤ reachBytes ∧ ∀ s ∈ l, s.size ≤ reachBytes := by
  obtain ⟨fuel, hf⟩ := h
  obtain ⟨a, len, cap, rfl⟩ := hv
  rcases open_strings Yba.underlying23 Yba.underlying9 cells9 hf with ⟨hcs, hx⟩ | ⟨ad, len', cap', ss, hcs, _, hl, hm, hz, hx, hcell, hwz⟩
  · simp [Value.cells] at hcs
    obtain ⟨rfl, rfl, rfl⟩ := hcs
    exact ⟨none, [], 0, rfl, Or.inl ⟨rfl, rfl, rfl⟩, Nat.zero_le _, by simp⟩
  · simp [Value.cells] at hcs
    obtain ⟨rfl, rfl, rfl⟩ := hcs
    simp only [if_true] at hz
    have hlz : len ≤ ss.length := by omega
    have hll : (ss.take len).length = len := by simp; omega
    have hcl : ∀ j (hj : j < (ss.take len).length), W.cell? (ad.add j) = some (.string (ss.take len)[j]) := by
      intro j hj
      have hj' : j < ss.length := by omega
      rw [hcell j hj']
      simp [hj']
    simp only [Prod.mk.injEq] at hx
    have hw' := hw
    rw [hx.1] at hw'
    refine ⟨some ad, _, cap, by rw [hll], Or.inr ⟨ad, rfl, fun j hj => ?_, hcl⟩, ?_, ?_⟩
    · have h0 : W.cell? ad = _ := hcl 0 (by omega)
      exact ⟨cell_lt h0, spot_none h0⟩
    · have := hw' (((strs (H := H) (ss.take len)).length + (strs (H := H) (ss.drop len)).length) * Yba.prog.bytesOf 9) (by simp [DataW.weights, Yba.underlying23])
      rw [bytes9] at this
      simp [strs] at this
      rw [hll]
      omega
    · intro s hs
      exact hw' s.size (by simp only [DataW.weights, Yba.underlying23, List.mem_cons, List.mem_append]; exact Or.inr (Or.inl (mem_weightsAll _ s hs)))
end Go.Proofs.Ybulkdvvq
