import Derived.Test.YbulkdvuoLeaf2
namespace Go.Proofs.Ybulkdvuo
open Go.RowKit
set_option linter.unusedSimpArgs false

/-- how many halvings till nothing is left, with fuel -/
def bl : Nat → Nat → Nat
  | 0, _ => 0
  | f + 1, n => if n = 0 then 0 else bl f (n / 2) + 1
theorem bl_zero (f : Nat) : bl f 0 = 0 := by cases f <;> simp [bl]
theorem bl_step {f n : Nat} (h : n ≠ 0) : bl (f + 1) n = bl f (n / 2) + 1 := by simp [bl, h]
theorem bl_le (f n : Nat) : bl f n ≤ f := by
  induction f generalizing n with
  | zero => simp [bl]
  | succ f ih => by_cases h : n = 0
                 · simp [bl, h]
                 · rw [bl_step h]; have := ih (n / 2); omega

/-- zzs6124cbitlen -/
theorem bitlen_any (n : Nat) (hn : n < 65536) (w : World) :
    Calls Yba.prog 9 #[.int .u64 n] w fun e w' => e = .returned (.int .i64 (bl 16 n)) ∧ w' = w := by
  go_enter Yba.func9, Yba.ntmps9
  go_wp2
  go_loop [0, 3] (fun u c => ∃ (k m : Nat), k ≤ 16 ∧ m < 2 ^ (16 - k) ∧ u = .int .u64 m ∧ c = .int .i64 k ∧ bl 16 n = bl (16 - k) m + k) (fun u _ => (intOf u).toNat)
  case atStart => exact ⟨0, n, by omega, by omega, rfl, rfl, rfl⟩
  case round =>
    obtain ⟨k, m, hk, hm, rfl, rfl, hb⟩ := hrel
    have HB : Hid (bl 16 n = bl (16 - k) m + k) := hb
    clear hb
    by_cases h0 : m = 0
    · subst h0
      go_wp2
      go_ret
      refine ⟨?_, rfl⟩
      rw [HB.out, bl_zero]; simp
    · have h1 : ((m : Int) != 0) = true := by rw [bne_iff_ne]; omega
      have hk16 : k < 16 := by
        rcases Nat.lt_or_ge k 16 with h | h
        · exact h
        · have : 16 - k = 0 := by omega
          rw [this] at hm; omega
      go_wp2
      go_round
      case rel =>
        refine ⟨k + 1, m / 2, by omega, ?_, by go_num, by go_num, ?_⟩
        · have : 16 - k = (16 - (k + 1)) + 1 := by omega
          rw [this, Nat.pow_succ] at hm
          omega
        · rw [HB.out]
          have : 16 - k = (16 - (k + 1)) + 1 := by omega
          rw [this, bl_step h0]; simp; omega
      case measure => simp [intOf]; omega

/-- a MessageID's three numbers -/
abbrev Tri := Int × Int × Int
/-- the cells of a row of MessageIDs from offset o of block g on -/
def IdsAt (w : World) (g o : Nat) (ids : List Tri) : Prop :=
  ∀ i, i < ids.length → w.cell? ⟨g, o + i * 3, none⟩ = some (.int .i64 (ids.getD i (0, 0, 0)).1) ∧ w.cell? ⟨g, o + i * 3 + 1, none⟩ = some (.int .i64 (ids.getD i (0, 0, 0)).2.1) ∧ w.cell? ⟨g, o + i * 3 + 2, none⟩ = some (.int .i64 (ids.getD i (0, 0, 0)).2.2)

theorem IdsAt.below {w w' : World} {g o B : Nat} {ids : List Tri} (h : IdsAt w g o ids) (hb : Below B w w') (hg : g < B) : IdsAt w' g o ids := by
  intro i hi
  obtain ⟨a, b, c⟩ := h i hi
  exact ⟨(hb.cell hg).trans a, (hb.cell hg).trans b, (hb.cell hg).trans c⟩

theorem getD_get {ids : List Tri} {k : Nat} (h : k < ids.length) : ids.getD k (0, 0, 0) = ids[k] := by simp [h]
theorem take_contains {ids : List Tri} {k : Nat} (h : k < ids.length) (t : Tri) : (ids.take (k + 1)).contains t = ((ids.take k).contains t || t == ids[k]) := by
  rw [List.take_succ_eq_append_getElem h, List.contains_eq_any_beq, List.contains_eq_any_beq, List.any_append]; simp
theorem tri_ne {p : Tri} {x y z : Int} (h : ¬ p.1 = x ∨ ¬ p.2.1 = y ∨ ¬ p.2.2 = z) : ((x, y, z) == p) = false := by
  rw [beq_eq_false_iff_ne]
  rintro rfl
  simp at h
theorem tri_eq {p : Tri} {x y z : Int} (h1 : p.1 = x) (h2 : p.2.1 = y) (h3 : p.2.2 = z) : p = (x, y, z) := by
  subst h1 h2 h3; rfl
/-- cells of a block just made -/
theorem three_new {w wr : World} {a b c : Value} {t : TypeId} (hb : Below (w.heap.size + 1) (w.alloc (.cells #[a, b, c] t)) wr) :
    wr.cell? ⟨w.heap.size, 0, none⟩ = some a ∧ wr.cell? ⟨w.heap.size, 1, none⟩ = some b ∧ wr.cell? ⟨w.heap.size, 2, none⟩ = some c ∧ w.heap.size < wr.heap.size := by
  have h0 := hb.cell (p := ⟨w.heap.size, 0, none⟩) (by simp)
  have h1 := hb.cell (p := ⟨w.heap.size, 1, none⟩) (by simp)
  have h2 := hb.cell (p := ⟨w.heap.size, 2, none⟩) (by simp)
  have := hb.size
  simp at this
  exact ⟨h0.trans (by simp [go_sem]), h1.trans (by simp [go_sem]), h2.trans (by simp [go_sem]), by omega⟩
theorem below_one {w wr : World} {o : Obj} (hb : Below (w.heap.size + 1) (w.alloc o) wr) : Below w.heap.size w wr :=
  ((Below.refl _ _).alloc (Nat.le_refl _) _).trans (hb.mono (Nat.le_succ _))

set_option maxRecDepth 20000 in
/-- zzs6124clacks -/
theorem clacks_any (g cp : Nat) (ids : List Tri) (x y z : Int) (w : World) (hl : ids.length ≤ 4096) (hg : g < w.heap.size) (hc : IdsAt w g 0 ids) :
    Calls Yba.prog 6 #[.slice (some ⟨g, 0, none⟩) ids.length cp, .agg #[.int .i64 x, .int .i64 y, .int .i64 z]] w fun e w' =>
      e = .returned (.bool (!ids.contains (x, y, z))) ∧ Below w.heap.size w w' := by
  go_enter Yba.func6, Yba.ntmps6
  go_wp2
  go_loopw [9] (fun i wr => ∃ k : Nat, k ≤ ids.length ∧ i = .int .i64 k ∧ (ids.take k).contains (x, y, z) = false ∧ Below (w.heap.size + 1) (w.alloc (.cells #[.int .i64 x, .int .i64 y, .int .i64 z] 86)) wr) (fun i _ => ids.length - (intOf i).toNat)
  case atStart => exact ⟨0, by omega, rfl, by simp, Below.refl _ _⟩
  case round =>
    obtain ⟨k, hk, rfl, hno, hb⟩ := hrel
    have HN : Hid ((ids.take k).contains (x, y, z) = false) := hno
    clear hno
    obtain ⟨q0, q1, q2, hsz⟩ := three_new hb
    have hb' := below_one hb
    by_cases hlt : k < ids.length
    · obtain ⟨c0, c1, c2⟩ := hc k hlt
      have d0 := (hb'.cell (p := ⟨g, 0 + k * 3, none⟩) hg).trans c0
      have d1 := (hb'.cell (p := ⟨g, 0 + k * 3 + 1, none⟩) hg).trans c1
      have d2 := (hb'.cell (p := ⟨g, 0 + k * 3 + 2, none⟩) hg).trans c2
      clear c0 c1 c2
      rw [getD_get hlt] at d0 d1 d2
      simp only [Nat.zero_add] at d0 d1 d2
      go_wp2
      case' roundEnd => skip
      all_goals first
        | (go_ret
           have e := tri_eq (p := ids[k]) (x := x) (y := y) (z := z) (by assumption) (by assumption) (by assumption)
           refine ⟨?_, hb'.alloc (Nat.le_of_lt hsz) _⟩
           have : ids.contains (x, y, z) = true := by rw [List.contains_eq_mem, ← e]; simp
           rw [this]; rfl)
        | (go_round
           case rel => exact ⟨k + 1, by omega, by go_num, by rw [take_contains hlt, HN.out, tri_ne (p := ids[k]) (by first | exact Or.inl (by assumption) | exact Or.inr (Or.inl (by assumption)) | exact Or.inr (Or.inr (by assumption)))]; rfl, hb.alloc (by omega) _⟩
           case measure => simp [intOf]; omega)
    · go_wp2
      go_ret
      refine ⟨?_, hb'⟩
      have : (ids.take k) = ids := List.take_of_length_le (by omega)
      have h2 := HN.out
      rw [this] at h2
      rw [h2]; rfl
end Go.Proofs.Ybulkdvuo
