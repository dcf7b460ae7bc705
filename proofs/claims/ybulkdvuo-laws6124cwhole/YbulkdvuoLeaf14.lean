import Derived.Test.YbulkdvuoLeaf13
namespace Go.Proofs.Ybulkdvuo
open Go.RowKit
set_option linter.unusedSimpArgs false

set_option maxRecDepth 20000 in
/-- asksMessagesAfter: joining, no ack held -/
theorem asksAfter0 (mb lb : Nat) (lo : Obj) (id q : Int) (w : World) (hg : mb < w.heap.size) (c15 : w.cell? ⟨mb, 15, none⟩ = some (.string ⟨#[106, 111, 105, 110, 105, 110, 103]⟩)) (c0 : w.cell? ⟨mb, 0, none⟩ = some (.int .i64 id)) (c58 : w.cell? ⟨mb, 58, none⟩ = some (.map (some lb))) (hl : w.heap[lb]? = some lo)
    (hlk : ∀ w' : World, w'.heap[lb]? = some lo → (Instr.lookup 68 (.map (some lb)) (.int .i64 1) false).run Yba.prog w' = .ok (.int .i64 q) w') (aa : Option Addr) (ac : Nat) (c39 : w.cell? ⟨mb, 39, none⟩ = some (.slice aa 0 ac)) :
    Calls Yba.prog 12 #[.pointer (some ⟨mb, 0, none⟩)] w fun e w' => e = .returned (.int .i64 9223372036854775807) ∧ Below w.heap.size w w' := by
  have hbl : lb < w.heap.size := (Array.getElem?_eq_some_iff.1 hl).1
  have hj : ((⟨#[106, 111, 105, 110, 105, 110, 103]⟩ : ByteArray).toList == [106, 111, 105, 110, 105, 110, 103]) = true := by rw [Lib.toList_data]; rfl
  have hl1 : w.drew.heap[lb]? = some lo := hl
  have hl2 : ∀ o : Obj, (w.alloc o).drew.heap[lb]? = some lo := fun o => (heap_alloc_lt hbl).trans hl
  go_enter Yba.func12, Yba.ntmps12
  go_wp2_with fail
  refine (joining_any mb _ _ c15).mono ?_
  rintro e w1 ⟨rfl, hw1⟩
  have hw1 := hw1.symm
  subst hw1
  rw [hj]
  go_wp2_with fail
  go_region_held3 (fun w' => w'.cell? ⟨mb, 0, none⟩ = some (.int .i64 id) ∧ w'.cell? ⟨mb, 58, none⟩ = some (.map (some lb)) ∧ w'.heap[lb]? = some lo) (first | go_keep | (refine ⟨?_, ?_, hl2 _⟩ <;> go_keep)) (fail)
  all_goals
    go_wp2_with fail
    refine (indexFunc0 _ _ _ _).mono ?_
    rintro e w2 ⟨rfl, hw2⟩
    subst hw2
    go_wp2_with fail
    go_ret
    exact ⟨rfl, (by repeat (first | exact Below.refl _ _ | apply Below.drew | refine Below.alloc ?_ (by simp <;> omega) _ | refine bdrewN ?_ _))⟩

set_option maxRecDepth 20000 in
set_option maxHeartbeats 1000000 in
/-- asksMessagesAfter: joining, the one ack held -/
theorem asksAfter1 (mb lb : Nat) (lo : Obj) (id q : Int) (w : World) (hg : mb < w.heap.size) (c15 : w.cell? ⟨mb, 15, none⟩ = some (.string ⟨#[106, 111, 105, 110, 105, 110, 103]⟩)) (c0 : w.cell? ⟨mb, 0, none⟩ = some (.int .i64 id)) (c58 : w.cell? ⟨mb, 58, none⟩ = some (.map (some lb))) (hl : w.heap[lb]? = some lo)
    (hlk : ∀ w' : World, w'.heap[lb]? = some lo → (Instr.lookup 68 (.map (some lb)) (.int .i64 1) false).run Yba.prog w' = .ok (.int .i64 q) w') (kb ab rb : Nat) (J : Int) (hkb : kb < w.heap.size) (hab : ab < w.heap.size) (hrb : rb < w.heap.size) (c39 : w.cell? ⟨mb, 39, none⟩ = some (.slice (some ⟨kb, 0, none⟩) 1 1))
    (k0 : w.cell? ⟨kb, 0, none⟩ = some (.pointer (some ⟨ab, 0, none⟩))) (a0 : w.cell? ⟨ab, 0, none⟩ = some (.int .i64 J)) (a1 : w.cell? ⟨ab, 1, none⟩ = some (.slice (some ⟨rb, 0, none⟩) 1 1))
    (r0 : w.cell? ⟨rb, 0, none⟩ = some (.int .i64 id)) (r1 : w.cell? ⟨rb, 1, none⟩ = some (.int .i64 q)) (r2 : w.cell? ⟨rb, 2, none⟩ = some (.int .i64 1)) :
    Calls Yba.prog 12 #[.pointer (some ⟨mb, 0, none⟩)] w fun e w' => e = .returned (.int .i64 J) ∧ Below w.heap.size w w' := by
  have hbl : lb < w.heap.size := (Array.getElem?_eq_some_iff.1 hl).1
  have hj : ((⟨#[106, 111, 105, 110, 105, 110, 103]⟩ : ByteArray).toList == [106, 111, 105, 110, 105, 110, 103]) = true := by rw [Lib.toList_data]; rfl
  have hl1 : w.drew.heap[lb]? = some lo := hl
  have hl2 : ∀ o : Obj, (w.alloc o).drew.heap[lb]? = some lo := fun o => (heap_alloc_lt hbl).trans hl
  go_enter Yba.func12, Yba.ntmps12
  go_wp2_with fail
  refine (joining_any mb _ _ c15).mono ?_
  rintro e w1 ⟨rfl, hw1⟩
  have hw1 := hw1.symm
  subst hw1
  rw [hj]
  go_wp2_with fail
  go_region_held3 (fun w' => w'.cell? ⟨mb, 0, none⟩ = some (.int .i64 id) ∧ w'.cell? ⟨mb, 58, none⟩ = some (.map (some lb)) ∧ w'.heap[lb]? = some lo) (first | go_keep | (refine ⟨?_, ?_, hl2 _⟩ <;> go_keep)) (fail)
  all_goals
    go_wp2_with fail
    refine (indexFunc1 kb ab rb w.heap.size id q 1 _ (by simp; omega) (by simp; omega) (by simp) (by simp [go_sem, hkb, k0]; done) (by simp [go_sem, hab, a1]; done) (by simp [go_sem, hrb, r0]; done) (by simp [go_sem, hrb, r1]; done) (by simp [go_sem, hrb, r2]; done) (by simp) (by simp) (by simp)).mono ?_
    rintro e w2 ⟨rfl, hb2⟩
    obtain ⟨hc2, hf2⟩ := bcell hb2
    have y1 : w2.cell? ⟨mb, 39, none⟩ = some (.slice (some ⟨kb, 0, none⟩) 1 1) := (hc2 mb 39 (by simp; omega)).trans (by simp [go_sem, hg, c39]; done)
    have y2 : w2.cell? ⟨kb, 0, none⟩ = some (.pointer (some ⟨ab, 0, none⟩)) := (hc2 kb 0 (by simp; omega)).trans (by simp [go_sem, hkb, k0]; done)
    have y3 : w2.cell? ⟨ab, 0, none⟩ = some (.int .i64 J) := (hc2 ab 0 (by simp; omega)).trans (by simp [go_sem, hab, a0]; done)
    clear hc2 hf2
    go_wp2_with fail
    go_ret
    exact ⟨rfl, Below.trans (by repeat (first | exact Below.refl _ _ | apply Below.drew | refine Below.alloc ?_ (by simp <;> omega) _ | refine bdrewN ?_ _)) (hb2.mono (by simp))⟩
set_option maxRecDepth 20000 in
/-- asksMessagesAfter: not joining -/
theorem asksAfter_not (mb : Nat) (s : ByteArray) (w : World) (c15 : w.cell? ⟨mb, 15, none⟩ = some (.string s)) (hs : (s.toList == [106, 111, 105, 110, 105, 110, 103]) = false) :
    Calls Yba.prog 12 #[.pointer (some ⟨mb, 0, none⟩)] w fun e w' => e = .returned (.int .i64 0) ∧ w' = w := by
  go_enter Yba.func12, Yba.ntmps12
  go_wp2_with fail
  refine (joining_any mb _ _ c15).mono ?_
  rintro e w1 ⟨rfl, hw1⟩
  have hw1 := hw1.symm
  subst hw1
  rw [hs]
  go_wp2_with fail
  go_ret
  exact ⟨rfl, rfl⟩
end Go.Proofs.Ybulkdvuo
