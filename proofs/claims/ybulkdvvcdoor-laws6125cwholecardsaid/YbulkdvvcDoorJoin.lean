import Derived.Test.YbulkdvvcDoorShelf
import Derived.Test.YbulkdvvcDoorUrl
import Derived.Test.YbulkdvvcDoorPlain
import Derived.Deep.AppendLies
namespace Go.Proofs.YbulkdvvcDoor
open Go.RowKit Go.Lib
set_option linter.unusedSimpArgs false

/-- what path.Join makes of two -/
def J (a b : ByteArray) : ByteArray := ⟨(Pa.joinL [a.data.toList, b.data.toList]).toArray⟩

theorem join2_any (bk cp : Nat) (a b : ByteArray) (w : World) (c0 : w.cell? ⟨bk, 0, none⟩ = some (.string a)) (c1 : w.cell? ⟨bk, 1, none⟩ = some (.string b)) (hbk : bk < w.heap.size) (ha : a.size ≤ 1000000) (hb : b.size ≤ 1000000) :
    Calls Ybad.prog 7 #[.slice (some ⟨bk, 0, none⟩) 2 cp] w fun e w' => e = .returned (.string (J a b)) ∧ Below w.heap.size w w' := by
  refine path_Join bk 0 cp [a, b] w (fun j x hx => ?_) hbk ?_
  · match j, hx with
    | 0, hx => simp at hx; subst hx; exact c0
    | 1, hx => simp at hx; subst hx; exact c1
    | j + 2, hx => simp at hx
  · have e1 : a.data.toList.length = a.size := (Lib.size_eq a).symm
    have e2 : b.data.toList.length = b.size := (Lib.size_eq b).symm
    simp only [Pa.lens, List.map_cons, List.map_nil, List.sum_cons, List.sum_nil, List.length_cons, List.length_nil, e1, e2]
    omega

/-- two strings that the call owns -/
theorem two_owned {w : World} {base g cap : Nat} {a b : Value} (h : w.ownsRow base 9 1 (.slice (some ⟨g, 0, none⟩) 2 cap) 2 [a, b]) :
    w.cell? ⟨g, 0, none⟩ = some a ∧ w.cell? ⟨g, 1, none⟩ = some b ∧ w.frozen? ⟨g, 0, none⟩ = false ∧ base ≤ g ∧ g < w.heap.size ∧ 2 ≤ cap := by
  have h0 := h.cellAt 0 (by omega)
  have h1 := h.cellAt 1 (by omega)
  refine ⟨by simpa using h0, by simpa using h1, h.frozenAt 0, ?_⟩
  rcases h.2 with ⟨_, h0⟩ | ⟨g', cap', cur, hv, hb, hg, hc, _⟩
  · omega
  · injection hv with e1 e2 e3
    injection e1 with e1
    injection e1 with e1
    subst e1; subst e3
    refine ⟨hb, ?_, hc⟩
    rcases Nat.lt_or_ge g w.heap.size with hlt | hge
    · exact hlt
    · rw [Array.getElem?_eq_none hge] at hg; cases hg

theorem bcell {B : Nat} {W w1 : World} (hb : Below B W w1) : (∀ b o, b < B → w1.cell? ⟨b, o, none⟩ = W.cell? ⟨b, o, none⟩) ∧ (∀ b o, b < B → w1.frozen? ⟨b, o, none⟩ = W.frozen? ⟨b, o, none⟩) :=
  ⟨fun b o h => hb.cell (p := ⟨b, o, none⟩) h, fun b o h => hb.frozen (p := ⟨b, o, none⟩) h⟩
theorem info9 : (Ybad.prog.info? 9).map (fun i => (i.zero, i.size, i.bytes)) = some (some (.string ⟨#[]⟩), 1, 16) := by kernel_rfl

/-- a slash -/
abbrev sl : ByteArray := ⟨#[47]⟩
def P1 (p e : ByteArray) : ByteArray := if pre p = true then J p e else (J (sl ++ p) e).extract 1 (J (sl ++ p) e).size
def P2 (p e : ByteArray) : ByteArray := if suf e = true ∧ suf (P1 p e) = false then P1 p e ++ sl else P1 p e
theorem data_append (a b : ByteArray) : (a ++ b).data.toList = a.data.toList ++ b.data.toList := by simp [ByteArray.data_append]
theorem J_eq (a b : ByteArray) (ha : AlL a.data.toList) (hb : AlL b.data.toList) (h : a.data.toList.head? = some 47) :
    ∃ t, (J a b).data.toList = 47 :: t ∧ AlL t ∧ t.length ≤ a.size + b.size + 2 := by
  obtain ⟨t, h1, h2, h3⟩ := Plain.join_rooted a.data.toList b.data.toList ha hb h
  exact ⟨t, by simp [J, h1], h2, by rw [Lib.size_eq a, Lib.size_eq b]; exact h3⟩
theorem pre_head {p : ByteArray} (h : pre p = true) : p.data.toList.head? = some 47 := by
  unfold pre Lib.hasPrefix at h
  cases hl : p.data.toList with
  | nil => rw [hl] at h; simp at h
  | cons a r => rw [hl] at h; simp at h; simp [h]
theorem al_sl {p : ByteArray} (h : AlL p.data.toList) : AlL (sl ++ p).data.toList := by
  rw [data_append]
  exact Plain.al_append (a := [47]) (fun c hc => by simp at hc; subst hc; simp) h
theorem al_ls {p : ByteArray} (h : AlL p.data.toList) : AlL (p ++ sl).data.toList := by
  rw [data_append]
  exact Plain.al_append h (fun c hc => by simp at hc; subst hc; simp)
theorem al_cons {t : List UInt8} (h : AlL t) : AlL (47 :: t) := Plain.al_47 h

structure Facts (p e : ByteArray) : Prop where
  j1 : pre p = true → (J p e).size ≤ 200000 ∧ AlL (J p e).data.toList
  j2 : pre p = false → 1 ≤ (J (sl ++ p) e).size ∧ (J (sl ++ p) e).size ≤ 200000 ∧ AlL ((J (sl ++ p) e).extract 1 (J (sl ++ p) e).size).data.toList
theorem facts (p e : ByteArray) (hp : p.size ≤ 65536) (he : e.size ≤ 65536) (ap : AlL p.data.toList) (ae : AlL e.data.toList) : Facts p e := by
  refine ⟨fun h => ?_, fun h => ?_⟩
  · obtain ⟨t, h1, h2, h3⟩ := J_eq p e ap ae (pre_head h)
    refine ⟨?_, by rw [h1]; exact al_cons h2⟩
    rw [Lib.size_eq, h1]; simp; omega
  · obtain ⟨t, h1, h2, h3⟩ := J_eq (sl ++ p) e (al_sl ap) ae (by rw [data_append]; rfl)
    have h4 : (sl ++ p).size = p.size + 1 := by simp [ByteArray.size_append]; exact Nat.add_comm _ _
    have h5 : (J (sl ++ p) e).size = t.length + 1 := by rw [Lib.size_eq, h1]; rfl
    refine ⟨by omega, by omega, ?_⟩
    rw [Lib.extract_data, h1]
    intro c hc
    simp at hc
    exact h2 c (List.mem_of_mem_take hc)
end Go.Proofs.YbulkdvvcDoor
