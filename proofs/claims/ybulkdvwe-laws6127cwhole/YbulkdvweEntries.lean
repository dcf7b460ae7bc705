import Derived.Test.YbulkdvweClone
import Derived.Laws.AppendOwnNone
import Derived.Defers
namespace Go.Proofs.Ybulkdvwe
open Go.RowKit
set_option linter.unusedSimpArgs false

theorem index52 (bs : List Value) (k : Nat) (v : Value) (hk : k < 160) (hv : bs[k]? = some v) (w : World) : (Instr.index 52 (.agg bs.toArray) (.int .i64 k)).run Yba.prog w = .ok v w := by
  have h2 : (k : Int) < ((160 : Nat) : Int) := by omega
  simp [Instr.index, asIntOf, run_underlying Yba.underlying52, Yba.sizeOf51, part, Yba.isAgg51, hv, hk, h2]
set_option maxRecDepth 20000 in
set_option maxHeartbeats 2000000 in
/-- Table.Entries -/
theorem entriesE (tb B : Nat) (bs : List Value) (es : List Ent) (w : World) (hok : ∀ x ∈ es, x.ok) (hL : es.length ≤ 65536)
    (hmu : w.cell? ⟨tb, 21, none⟩ = some (.int .i32 0)) (hfz : w.frozen? ⟨tb, 21, none⟩ = false) (hbl : bs.length = 160) (hbk : w.rangeAt tb 23 bs) (hB : tb < B)
    (hrow : ∀ i v, bs[i]? = some v → w.ownsRow B 65 30 v (inB es i).length ((inB es i).flatMap Ent.ent)) :
    Calls Yba.prog 17 #[.pointer (some ⟨tb, 0, none⟩)] w fun e w' => ∃ v', e = .returned v' ∧ w'.ownsRow w.heap.size 65 30 v' es.length ((upTo es 160).flatMap Ent.ent) ∧ Below w.heap.size w w' := by
  obtain ⟨i, hi, hz0, hz1, hz2⟩ := info65
  have f52 : (Yba.prog.info? 52).map (·.size) = some bs.length := by rw [hbl]; kernel_rfl
  have htb : tb < w.heap.size := World.block_lt_of_cell? w _ hmu
  have hb2 : (w.setCell ⟨tb, 21, none⟩ (.int .i32 1)).rangeAt tb 23 bs := rangeAt_beside hbk (by omega)
  have hlen : ∀ n, n ≤ 160 → (upTo es n).length ≤ 65536 := fun n hn => by
    obtain ⟨r, hr⟩ := upTo_le es hn
    have := upTo_len es
    rw [hr, List.length_append] at this
    omega
  have HR : Hid (∀ i v, bs[i]? = some v → w.ownsRow B 65 30 v (inB es i).length ((inB es i).flatMap Ent.ent)) := hrow
  have HL : Hid (∀ n, n ≤ 160 → (upTo es n).length ≤ 65536) := hlen
  have HO : Hid (∀ x ∈ es, x.ok) := hok
  clear hrow hlen hok
  go_enter_defers Yba.func17, Yba.ntmps17
  go_wp2_with fail
  refine (Go.MuLone.lock_free Yba.muLib ⟨tb, 21, none⟩ w hmu hfz).mono ?_
  rintro e w1 ⟨rfl, rfl⟩
  go_wp2_with (refine wpList_load_mid rfl 52 _ rfl tb 23 rfl bs _ hb2 Yba.underlying52 rfl f52 ?_)
  go_loopw [3, 17] (fun all j wr => ∃ k : Nat, k ≤ 160 ∧ j = .int .i64 k ∧ wr.ownsRow w.heap.size 65 30 all (upTo es k).length ((upTo es k).flatMap Ent.ent) ∧ Below w.heap.size (w.setCell ⟨tb, 21, none⟩ (.int .i32 1)) wr) (fun _ j _ => 160 - (intOf j).toNat)
  case atStart => exact ⟨0, by omega, rfl, World.ownsRow_nil _ _ _ _, Below.refl _ _⟩
  case round =>
    obtain ⟨k, hk, rfl, hown, hb⟩ := hrel
    by_cases hlt : k < 160
    · obtain ⟨v, hv⟩ : ∃ v, bs[k]? = some v := ⟨_, List.getElem?_eq_getElem (by omega)⟩
      have hvi := index52 bs k v hlt hv wr
      have hrow := own_keep (HR.out k v hv) (w' := wr) (fun g hg => by
        have h2 := (HR.out k v hv).lt g hg
        rw [hb.block g h2.2, Go.Deep.blk_setCell_other _ _ _ _ (by show g ≠ tb; omega)])
      have hnew := HL.out (k + 1) (by omega)
      have hone := flat_one Ent.ent_one (inB es k)
      have hsz : w.heap.size ≤ wr.heap.size := by have := hb.size; simpa using this
      have hus := upTo_succ es k
      have hul : (upTo es (k + 1)).length = (upTo es k).length + (inB es k).length := by rw [hus, List.length_append]
      have hfm : (upTo es (k + 1)).flatMap Ent.ent = (upTo es k).flatMap Ent.ent ++ (inB es k).flatMap Ent.ent := by rw [hus, List.flatMap_append]
      generalize hN : (upTo es k).length = N at *
      generalize hM : (inB es k).length = M at *
      generalize hX : (upTo es k).flatMap Ent.ent = X at *
      generalize hY : (inB es k).flatMap Ent.ent = Y at *
      rcases hrow.2 with ⟨rfl, hM0⟩ | ⟨g, cap, cur, rfl, hbg, hg, hnc, hcm, hcs, htake⟩
      · have hY0 : Y = [] := List.eq_nil_of_length_eq_zero (by rw [hrow.1, hM0])
        go_wp2_with (at_builtin; refine wpList_append_own_none rfl _ _ 51 rfl w.heap.size 65 i 30 Yba.underlying51 hi u3 N X rfl hown rfl ?_)
        go_roundw
        case rel => exact ⟨k + 1, by omega, by go_num, by rw [hul, hfm, hY0, hM0, List.append_nil]; exact hown, hb⟩
        case measure => simp [intOf]; omega
      · have hr := own_range hrow rfl
        go_wp2_with (at_builtin; refine wpList_append_own_at _ rfl _ _ 51 rfl w.heap.size 65 i _ 30 104 Yba.underlying51 hi hz0 hz1 hz2 (by decide) (by omega) u3 N X rfl hown ⟨g, 0, none⟩ M cap Y rfl hrow.1 (fun j u hu => by rw [Addr.add_mid]; exact hr j u hu) hone (by simp [maxLen]; omega) (by omega) hsz ?_; intro v' w' ho hgr hnil hat)
        go_roundw
        case rel => exact ⟨k + 1, by omega, by go_num, by rw [hul, hfm]; exact ho, below_grown hb hgr hsz (fun q hq => (hown.lt q hq).1)⟩
        case measure => simp [intOf]; omega
    · obtain rfl : k = 160 := by omega
      have hmu' : wr.cell? ⟨tb, 21, none⟩ = some (.int .i32 1) := (hb.cell (p := ⟨tb, 21, none⟩) htb).trans (World.cell?_setCell_same _ _ _ hmu)
      have hfz' : wr.frozen? ⟨tb, 21, none⟩ = false := (hb.frozen (p := ⟨tb, 21, none⟩) htb).trans (by simp [hfz])
      have hul := upTo_len es
      go_wp2
      refine leaves_cons (f := 21) (args := #[.pointer (some ⟨tb, 21, none⟩)]) (by simp) (by simp [go_sem]) ?_
      refine (Go.MuLone.unlock_deferred Yba.muLib ⟨tb, 21, none⟩ .returning _ hmu' hfz').mono ?_
      rintro e u' w'' ⟨rfl, rfl, rfl⟩
      refine ⟨_, results_tmp rfl _ _ _, _, rfl, ?_, below_back hmu hb⟩
      rw [hul] at hown
      refine own_keep hown (fun g hg => Go.Deep.blk_setCell_other _ _ _ _ ?_)
      have := (hown.lt g hg).1
      show g ≠ tb
      omega
end Go.Proofs.Ybulkdvwe
