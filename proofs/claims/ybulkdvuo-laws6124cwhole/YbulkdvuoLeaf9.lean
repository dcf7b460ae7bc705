import Derived.Test.YbulkdvuoLeaf8
namespace Go.Proofs.Ybulkdvuo
open Go.RowKit
set_option linter.unusedSimpArgs false

theorem bl_aux : ∀ (f g n : Nat), n < 2 ^ f → f ≤ g → bl f n = Lib.bitLenAux g n
  | 0, g, n, h, _ => by
    have : n = 0 := by simpa using h
    subst this
    cases g <;> simp [bl, Lib.bitLenAux]
  | f + 1, 0, n, _, h => by omega
  | f + 1, g + 1, n, h, hg => by
    by_cases h0 : n = 0
    · subst h0; simp [bl, Lib.bitLenAux]
    · have := bl_aux f g (n / 2) (by rw [Nat.pow_succ] at h; omega) (by omega)
      simp [bl, Lib.bitLenAux, h0, this]; omega
theorem bl_bitLen (n : Nat) (h : n < 65536) : bl 16 n = Lib.bitLen n := bl_aux 16 64 n h (by omega)

/-- the member's cells that the road reads -/
structure Mem (w : World) (mb g : Nat) (T r P H si fr fi : Int) (oa : Option Addr) (n oc : Nat) (l : List Int) : Prop where
  m1 : w.cell? ⟨mb, 1, none⟩ = some (.int .i64 T)
  m2 : w.cell? ⟨mb, 2, none⟩ = some (.int .i64 r)
  m3 : w.cell? ⟨mb, 3, none⟩ = some (.int .i64 P)
  m4 : w.cell? ⟨mb, 4, none⟩ = some (.int .i64 H)
  m8 : w.cell? ⟨mb, 8, none⟩ = some (.slice (some ⟨g, 0, none⟩) 1 1)
  g0 : w.cell? ⟨g, 0, none⟩ = some (.int .i64 si)
  g1 : w.cell? ⟨g, 1, none⟩ = some (.int .i64 fr)
  g2 : w.cell? ⟨g, 2, none⟩ = some (.int .i64 fi)
  g3 : w.cell? ⟨g, 3, none⟩ = some (.slice oa n oc)
  rd : RdI w oa l
  bm : mb < w.heap.size
  bg : g < w.heap.size
theorem Mem.kept {w w' : World} {mb g : Nat} {T r P H si fr fi : Int} {oa : Option Addr} {n oc : Nat} {l : List Int} (h : Mem w mb g T r P H si fr fi oa n oc l) (hb : Below w.heap.size w w') : Mem w' mb g T r P H si fr fi oa n oc l :=
  have km := fun o => hb.cell (p := ⟨mb, o, none⟩) h.bm
  have kg := fun o => hb.cell (p := ⟨g, o, none⟩) h.bg
  ⟨(km _).trans h.m1, (km _).trans h.m2, (km _).trans h.m3, (km _).trans h.m4, (km _).trans h.m8, (kg _).trans h.g0, (kg _).trans h.g1, (kg _).trans h.g2, (kg _).trans h.g3, h.rd.kept hb (Nat.le_refl _), Nat.lt_of_lt_of_le h.bm hb.size, Nat.lt_of_lt_of_le h.bg hb.size⟩
/-- the first period that asks -/
def firstOf (n : Nat) (fr fi s r : Int) : Int := if r < 0 then 1 else Lib.bitLen (distOf n fr fi s r).toNat + 1

set_option maxRecDepth 20000 in
set_option maxHeartbeats 1000000 in
/-- Member.firstAsk -/
theorem firstAsk_any (mb g : Nat) (T r P H si fr fi id s : Int) (oa : Option Addr) (oc : Nat) (l : List Int) (w : World) (hm : Mem w mb g T r P H si fr fi oa l.length oc l) (hl : l.length ≤ 1000000)
    (hT : 1 ≤ T ∧ T ≤ 1000) (b1 : -1000000 ≤ fr ∧ fr ≤ 1000000) (b2 : -1000000 ≤ fi ∧ fi ≤ 1000000) (b3 : -32768 ≤ s ∧ s ≤ 32767) :
    Calls Yba.prog 15 #[.pointer (some ⟨mb, 0, none⟩), .int .i64 id, .int .i64 s] w fun e w' =>
      ∃ q, Ix l id q ∧ e = .returned (.int .i64 (firstOf l.length fr fi s q)) ∧ Below w.heap.size w w' := by
  have HM : Hid (Mem w mb g T r P H si fr fi oa l.length oc l) := hm
  obtain ⟨m1, m2, m3, m4, m8, _, _, _, _, _, _, _⟩ := hm
  go_enter Yba.func15, Yba.ntmps15
  go_wp2_with fail
  go_region_held3 (fun w' => w'.cell? ⟨mb, 1, none⟩ = some (.int .i64 T) ∧ w'.cell? ⟨mb, 2, none⟩ = some (.int .i64 r) ∧ w'.cell? ⟨mb, 3, none⟩ = some (.int .i64 P) ∧ w'.cell? ⟨mb, 4, none⟩ = some (.int .i64 H) ∧ w'.cell? ⟨mb, 8, none⟩ = some (.slice (some ⟨g, 0, none⟩) 1 1)) (go_keep)
    (first
      | (go_at_call 25; refine (ackTime_any T r P H s (by omega) hT _).mono ?_; rintro e w1 ⟨rfl, hb1⟩; have B1 : Hid (Below w.heap.size w w1) := (Below.refl _ _).drew.trans hb1; have M1 : Hid (Mem w1 mb g T r P H si fr fi oa l.length oc l) := HM.out.kept B1.out; obtain ⟨x1, x2, x3, x4, x8, _, _, _, _, _, _, _⟩ := M1.out)
      | (go_at_call 24; refine (at1 g 1 _ si fr fi oa l.length oc _ M1.out.bg M1.out.g0 M1.out.g1 M1.out.g2 M1.out.g3).mono ?_; rintro e w2 ⟨rfl, hb2⟩; have B2 : Hid (Below w.heap.size w w2) := B1.out.trans (hb2.mono B1.out.size); have M2 : Hid (Mem w2 mb g T r P H si fr fi oa l.length oc l) := HM.out.kept B2.out; obtain ⟨y1, y2, y3, y4, y8, _, _, _, _, _, _, _⟩ := M2.out)
      | (go_at_call 26; refine (distance_any si fr fi s id oa oc l _ hl M2.out.rd b1 b2 (by omega)).mono ?_; rintro e w3 ⟨q, hq, rfl, hb3⟩; have HQ : Hid (Ix l id q) := hq; have hqb := hq.lt; clear hq; have B3 : Hid (Below w.heap.size w w3) := B2.out.trans (hb3.mono B2.out.size); obtain ⟨z1, z2, z3, z4, z8, _, _, _, _, _, _, _⟩ := HM.out.kept B3.out))
  have hdb := distOf_bd l.length fr fi s q (by omega)
  by_cases h0 : q < 0
  · have hf : firstOf l.length fr fi s q = 1 := if_pos h0
    have hd : decide (0 ≤ q) = false := decide_eq_false (by omega)
    rw [hd]
    clear hd
    go_wp2_with fail
    go_ret
    exact ⟨q, HQ.out, by rw [hf]; rfl, B3.out⟩
  · have hf : firstOf l.length fr fi s q = Lib.bitLen (distOf l.length fr fi s q).toNat + 1 := if_neg h0
    have HFq : Hid (firstOf l.length fr fi s q = Lib.bitLen (distOf l.length fr fi s q).toNat + 1) := hf
    clear hf
    have hd : decide (0 ≤ q) = true := decide_eq_true (by omega)
    rw [hd]
    clear hd
    go_wp2_with fail
    refine (recruited_any _ _ hdb.1 (by omega)).mono ?_
    rintro e w4 ⟨rfl, hw4⟩
    subst hw4
    go_wp2_with fail
    go_ret
    exact ⟨q, HQ.out, by rw [HFq.out]; rfl, B3.out⟩
end Go.Proofs.Ybulkdvuo
