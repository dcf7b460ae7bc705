import Derived.Test.YbulkdvweFrame
import Derived.Lib.SliceRun
import Derived.OwnWalk
namespace Go.Proofs.Ybulkdvwe
open Go.RowKit
set_option linter.unusedSimpArgs false

theorem info65 : ∃ i, Yba.prog.info? 65 = some i ∧ i.zero = some (.agg (z20 ++ z4 ++ (z3 ++ z3)).toArray) ∧ i.size = 30 ∧ i.bytes = 104 := by
  have h : (Yba.prog.info? 65).map (fun i => (i.zero, i.size, i.bytes)) = some (some (.agg (z20 ++ z4 ++ (z3 ++ z3)).toArray), 30, 104) := by kernel_rfl
  cases hi : Yba.prog.info? 65 with
  | none => rw [hi] at h; cases h
  | some i =>
    rw [hi] at h
    simp only [Option.map_some, Option.some.injEq, Prod.mk.injEq] at h
    exact ⟨i, rfl, h.1, h.2.1, h.2.2⟩

set_option maxRecDepth 20000 in
set_option maxHeartbeats 2000000 in
/-- slices.Clone -/
theorem cloneE (base : Nat) (v : Value) (n : Nat) (xs : List Value) (w : World) (hown : w.ownsRow base 65 30 v n xs) (h1 : ∀ u ∈ xs, u.oneCell' = true) (hn : n ≤ 65536) :
    Calls Yba.prog 8 #[v] w fun e w' => ∃ v', e = .returned v' ∧ w'.ownsRow w.heap.size 65 30 v' n xs ∧ Below w.heap.size w w' := by
  have q51 : ∀ (w : World) (a : Option Addr) (n c : Nat), (binOp .eql 51 (.slice a n c) (.slice none 0 0)).run Yba.prog w = .ok (.bool a.isNone) w := fun w a n c => Lib.run_eql_slice_nil w _ _ a n c 0 0 Yba.underlying51
  rcases hown.2 with ⟨rfl, rfl⟩ | ⟨g, cap, cur, rfl, hb, hg, hnc, hcm, hcs, htake⟩
  · have hx : xs = [] := List.eq_nil_of_length_eq_zero (by simpa using hown.1)
    subst hx
    go_enter Yba.func8, Yba.ntmps8
    go_wp2
    go_ret
    exact ⟨_, rfl, World.ownsRow_nil _ _ _ _, Below.refl _ _⟩
  · obtain ⟨i, hi, hz0, hz1, hz2⟩ := info65
    have hr := own_range hown rfl
    have hmade := World.ownsRow_made (base := w.heap.size) (e := 65) (size := 30) w #[] 0 (Nat.le_refl _) (by decide) rfl
    have hr' := World.rangeAt_alloc hr (.cells #[] 65)
    go_enter Yba.func8, Yba.ntmps8
    go_wp2_with (at_builtin; refine wpList_append_own_at _ rfl _ _ 51 rfl w.heap.size 65 i _ 30 104 Yba.underlying51 hi hz0 hz1 hz2 (by decide) (by omega) (.slice (some ⟨w.heap.size, 0, none⟩) 0 0) 0 [] rfl hmade ⟨g, 0, none⟩ n cap xs rfl hown.1 (fun j u hu => by rw [Addr.add_mid]; exact hr' j u hu) h1 (by simp [maxLen]; omega) (by omega) (by simp) ?_; intro v' w' ho hgr hnil hat)
    rw [Nat.zero_add, List.nil_append] at ho
    go_ret
    refine ⟨v', rfl, ho, ?_⟩
    exact below_grown ((Below.refl _ _).alloc (Nat.le_refl _) _) hgr (by simp) (fun k hk => by simp [Value.ownBlock] at hk; omega)
end Go.Proofs.Ybulkdvwe
