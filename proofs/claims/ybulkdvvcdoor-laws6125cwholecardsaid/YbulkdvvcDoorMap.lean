import Derived.Test.YbulkdvvcDoorLeaf
import Derived.Deep.OwnRows
import Derived.Deep.LoopGhost
namespace Go.Proofs.YbulkdvvcDoor
open Go.RowKit
set_option linter.unusedSimpArgs false
theorem info5 : (Ybad.prog.info? 5).map (fun i => (i.zero, i.size, i.bytes)) = some (some (.int .u8 0), 1, 1) := by kernel_rfl

theorem row_step {wr : World} {B n k : Nat} {l : List UInt8} (hrow : wr.rowIs B 5 n (fun i => .int .u8 ((l.getD i 0).toNat : Int))) (hl : l.length = k) (b : UInt8) :
    (wr.setCell ⟨B, k, none⟩ (.int .u8 (b.toNat : Int))).rowIs B 5 n (fun i => .int .u8 (((l ++ [b]).getD i 0).toNat : Int)) :=
  (hrow.set k _).congr (fun i _ => by
    by_cases e : i = k
    · subst e; simp [← hl]
    · rw [if_neg e]
      by_cases h : i < l.length
      · simp [List.getElem?_append_left h]
      · have h1 : l[i]? = none := List.getElem?_eq_none (by omega)
        have h2 : (l ++ [b])[i]? = none := List.getElem?_eq_none (by simp; omega)
        simp [List.getD, h1, h2])

set_option maxRecDepth 20000 in
/-- zzs6125cmap: a string of the same length over the bytes of tab -/
theorem map_any (s tab : ByteArray) (w : World) (hs : s.size ≤ 65536) (ht : 1 ≤ tab.size ∧ tab.size ≤ 5) :
    Calls Ybad.prog 4 #[.string s, .string tab] w fun e w' =>
      ∃ t : ByteArray, e = .returned (.string t) ∧ t.size = s.size ∧ (∀ c, c ∈ t.data.toList → c ∈ tab.data.toList) ∧ Below w.heap.size w w' := by
  obtain ⟨t1, t2⟩ := ht
  have ht0 : ((tab.size : Int) == 0) = false := beq_eq_false_iff_ne.2 (by omega)
  have hmk := run_make_row' (P := Ybad.prog) 31 5 (.int .u8 0) 1 Ybad.underlying31 info5 rfl .i64 .i64 s.size (by omega) (by omega)
  go_enter Ybad.func4, Ybad.ntmps4
  go_wp2
  go_loopw [6] (fun i wr => ∃ (k : Nat) (l : List UInt8), k ≤ s.size ∧ i = .int .i64 k ∧ l.length = k ∧ (∀ c, c ∈ l → c ∈ tab.data.toList) ∧ wr.rowIs w.heap.size 5 s.size (fun i => .int .u8 ((l.getD i 0).toNat : Int)) ∧ Below w.heap.size w wr) (fun i _ => s.size - (intOf i).toNat)
  case atStart => exact ⟨0, [], Nat.zero_le _, rfl, rfl, by simp, (World.rowIs_made w _ s.size 5).congr (fun i _ => by simp), (Below.refl _ w).alloc (Nat.le_refl _) _⟩
  case round =>
    obtain ⟨k, l, hk, rfl, hl, hmem, hrow, hb⟩ := hrel
    have HL : Hid (l.length = k) := hl
    have HM : Hid (∀ c, c ∈ l → c ∈ tab.data.toList) := hmem
    clear hl hmem
    by_cases hlt : k < s.size
    · have hby : (s[k].toNat : Int) < 256 := by have := s[k].toNat_lt; omega
      have hc := hrow.cell hlt
      have hf := hrow.frozen k
      have hm : (s[k].toNat : Int) % (tab.size : Int) < (tab.size : Int) := Int.emod_lt_of_pos _ (by omega)
      have hm0 : 0 ≤ (s[k].toNat : Int) % (tab.size : Int) := Int.emod_nonneg _ (by omega)
      go_wp2
      go_roundw
      case rel =>
        refine ⟨k + 1, l ++ [tab[s[k].toNat % tab.size]'(Nat.mod_lt _ (by omega))], by omega, by go_num, by simp [HL.out], ?_, row_step hrow HL.out _, hb.setCell (Nat.le_refl _) _⟩
        intro c hc
        rcases List.mem_append.1 hc with h | h
        · exact HM.out c h
        · rw [List.mem_singleton.1 h]
          exact List.getElem_mem (l := tab.data.toList) (by simpa using Nat.mod_lt _ (by omega))
      case measure => simp [intOf]; omega
    · have hn : l.length = s.size := by have := HL.out; omega
      have g := run_convert_bytes_back (P := Ybad.prog) wr 31 9 5 ⟨w.heap.size, 0, none⟩ s.size l Ybad.underlying31 Ybad.underlying5 Ybad.underlying9 (fun j hj => by
        rw [show ((⟨w.heap.size, 0, none⟩ : Addr).add j) = ⟨w.heap.size, j, none⟩ by simp [Addr.add]; omega, hrow.cell (by omega)]
        simp [hj])
      rw [hn] at g
      have HN : Hid (l.length = s.size) := hn
      clear hn
      go_wp2
      go_ret
      exact ⟨⟨l.toArray⟩, rfl, by rw [← HN.out]; simp [ByteArray.size], by simpa using HM.out, hb⟩
end Go.Proofs.YbulkdvvcDoor
