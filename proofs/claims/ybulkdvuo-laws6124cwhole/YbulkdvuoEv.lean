import Derived.Test.YbulkdvuoT38
namespace Go.Proofs.Ybulkdvuo
open Go.RowKit
set_option linter.unusedSimpArgs false
theorem ev_of {wA wc : World} {mb hb hib ob rg ls : Nat} {M : List Value} {ids : List Tri} {fr fi after mid T r P now : Int} {l : List Int} {es : Array MapEntry} {ck : Nat} {c : Pm} (hS : S3 wA wc mb hb hib ob rg M ids (l.map (Value.int .i64)) fr fi l.length after) (hM : MF M mid T r P now hb ls) (hh : wc.heap[hb]? = some (.map es ck)) (hc : c.T = T ∧ c.r = r ∧ c.P = P ∧ c.after = after) :
    EvIf wc wc.heap.size mb hb rg ob hib c now fr fi mid l es ck ids := fun V h1 h2 h3 h4 => by
  obtain ⟨rfl, rfl, rfl, rfl⟩ := hc
  have hp := hS.pl
  have hmw := hS.mem.lt
  have hcm : ∀ o v, o ≠ 42 → M[o]? = some v → V.cell? ⟨mb, o, none⟩ = some v := fun o v ho hv => (h2 o ho).trans (hS.mem.cell hv)
  have hrV : ∀ b cs, b < wc.heap.size → b ≠ mb → wc.rangeAt b 0 cs → V.rangeAt b 0 cs := fun b cs hb1 hb2 hr j v hj => (World.cell?_of_block (a := ⟨b, 0 + j, none⟩) (h1 b hb1 hb2)).trans (hr j v hj)
  have hring := hrV rg _ (by omega) (by omega) hS.ring
  have hord := hrV ob _ (by omega) (by omega) hS.ordr
  refine ⟨fun U hU => ?_, fun U hU => ?_, hcm 0 _ (by omega) hM.m0, hcm 30 _ (by omega) hM.m30, hcm 33 _ (by omega) hM.m33, hcm 37 _ (by omega) hM.m37, h3, (h1 hb (by omega) (by omega)).trans hh, hrV hib _ (by omega) (by omega) hS.rd, ⟨hmw, by omega, by omega, h4⟩⟩
  · have hcu : ∀ o v, o ≠ 42 → M[o]? = some v → U.cell? ⟨mb, o, none⟩ = some v := fun o v ho hv => (hU.cell (p := ⟨mb, o, none⟩) hmw).trans (hcm o v ho hv)
    have hru := rangeAt_below hU (show rg < wc.heap.size by omega) hring
    have hou := rangeAt_below hU (show ob < wc.heap.size by omega) hord
    have hus := hU.size
    refine ⟨hcu 1 _ (by omega) hM.m1, hcu 2 _ (by omega) hM.m2, hcu 3 _ (by omega) hM.m3, hcu 4 _ (by omega) hM.m4, hcu 8 _ (by omega) hS.m8, hru 0 _ rfl, hru 1 _ rfl, hru 2 _ rfl, hru 3 _ rfl, Or.inr ⟨ob, 0, rfl, by omega, fun i hi => hou i _ ?_⟩, by omega, by omega⟩
    rw [List.getElem?_map, List.getElem?_eq_getElem hi]; rfl
  · refine hS.aft U (fun b hb1 hb2 => (hU.block b hb1).trans (h1 b hb1 hb2)) (fun o ho => (hU.cell (p := ⟨mb, o, none⟩) hmw).trans (h2 o ho)) (Nat.le_trans h4 hU.size)
theorem tot_mem : ∀ {l : List In1} {x : In1}, x ∈ l → x.refs.length ≤ tot l
  | y :: l, x, h => by
    unfold tot
    simp only [List.map_cons, List.sum_cons]
    rcases List.mem_cons.1 h with rfl | h
    · omega
    · have := tot_mem h
      unfold tot at this; omega
theorem aftOf_bd (on held : Bool) {J : Int} (h : -32768 ≤ J ∧ J ≤ 32767) : -9223372036854775808 ≤ aftOf on held J ∧ aftOf on held J ≤ 9223372036854775807 := by
  unfold aftOf
  split
  · split <;> omega
  · omega
end Go.Proofs.Ybulkdvuo
