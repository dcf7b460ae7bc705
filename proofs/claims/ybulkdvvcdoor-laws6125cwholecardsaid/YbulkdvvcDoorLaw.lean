import Derived.Test.YbulkdvvcDoorTop
import Derived.Deep.DeepCutAuto
import Derived.Deep.CutBlock
import Derived.LaidEqlPtr
import Derived.BigQuiet
import Derived.Deep.QuietTactic
namespace Go.Proofs.YbulkdvvcDoor
open Go.RowKit Go.Lib
set_option linter.unusedSimpArgs false

theorem al_of_tab {t : ByteArray} (h : ∀ c, c ∈ t.data.toList → c ∈ (⟨#[97, 98, 47, 46, 120]⟩ : ByteArray).data.toList) : AlL t.data.toList := by
  intro c hc
  have := h c hc
  simp at this
  exact this

/-- what stands behind the call of joinPath -/
structure St (w : World) (ub nb : Nat) (sch host p frag rq q3 : ByteArray) (wc : World) : Prop where
  bel : Below w.heap.size w wc
  hu : wc.heap[ub]? = some (.cells (ucs sch host p frag rq ⟨#[]⟩) 26 (0, 0))
  hb : wc.heap[ub + 1]? = some (.cells (ucs sch host p frag rq ⟨#[]⟩) 26 (0, 0))
  hn : wc.heap[nb]? = some (.cells (ucs sch host q3 frag rq ⟨#[]⟩) 26 (0, 0))
theorem St.on {w wc w' : World} {ub nb B : Nat} {sch host p frag rq q3 : ByteArray} (h : St w ub nb sch host p frag rq q3 wc) (hb : Below B wc w') (hB : wc.heap.size ≤ B) : St w ub nb sch host p frag rq q3 w' :=
  ⟨h.bel.trans (hb.mono (Nat.le_trans h.bel.size hB)), (hb.block _ (Nat.lt_of_lt_of_le (blk_lt h.hu) hB)).trans h.hu, (hb.block _ (Nat.lt_of_lt_of_le (blk_lt h.hb) hB)).trans h.hb, (hb.block _ (Nat.lt_of_lt_of_le (blk_lt h.hn) hB)).trans h.hn⟩

theorem heap_alloc_at (w : World) (o : Obj) {n : Nat} (h : n = w.heap.size) : (w.alloc o).heap[n]? = some o := by subst h; exact heap_alloc_new w o
theorem and89 (a b : Bool) (h : ¬ (a = true ∧ b = false)) : (a && !b) = false := by cases a <;> cases b <;> simp_all
theorem pt24 : Ybad.prog.underlying 24 = some (.pointer (Ybad.prog.pointee 24)) := by kernel_rfl
theorem P3_size {p e : ByteArray} (h : (P2 p e).size ≤ 200001) : (P3 p e).size ≤ 200002 := by
  unfold P3
  split
  · omega
  · rw [ByteArray.size_append]
    have : sl.size = 1 := rfl
    omega
theorem bdrewN {B : Nat} {a w : World} (h : Below B a w) (n : Nat) : Below B a (w.drewN n) := h.trans ⟨rfl, rfl, rfl, Nat.le_refl _, fun _ _ => rfl⟩
theorem info26 : ∃ j, Ybad.prog.info? 26 = some j ∧ j.size ≠ 0 := by
  have h : (Ybad.prog.info? 26).map (·.size) = some 11 := by kernel_rfl
  obtain ⟨j, hj, hs⟩ := Option.map_eq_some_iff.1 h
  exact ⟨j, hj, by omega⟩

set_option maxRecDepth 20000 in
set_option maxHeartbeats 4000000 in
theorem law_any (n : Int) (host base query frag elem : ByteArray) (w : World) (hn : 0 ≤ n ∧ n ≤ 255) (ht : Tab w)
    (hl : host.size + base.size + query.size + frag.size + elem.size ≤ 65536) :
    Calls Ybad.prog 3 #[.int .u8 n, .string host, .string base, .string query, .string frag, .string elem] w fun e w' => e = .returned (.bool true) ∧ Below w.heap.size w w' := by
  obtain ⟨n0, n1⟩ := hn
  go_enter Ybad.func3, Ybad.ntmps3
  go_upto_block 0 with fail
  go_cut [13] (fun s wx => (∃ sch, s = .string sch) ∧ wx = w)
  case first =>
    go_wp2
    all_goals (go_meet; case rel => exact ⟨⟨_, rfl⟩, rfl⟩)
  case rest =>
    obtain ⟨⟨sch, rfl⟩, hwx⟩ := hcut
    rw [hwx]
    clear hwx
    go_wp2_with fail
    refine (map_any host ⟨#[104, 107, 48]⟩ _ (by omega) ⟨by decide, by decide⟩).mono ?_
    rintro x w1 ⟨h1, rfl, z1, m1, b1⟩
    clear m1
    go_wp2_with fail
    refine (map_any base ⟨#[97, 98, 47, 46, 120]⟩ _ (by omega) ⟨by decide, by decide⟩).mono ?_
    rintro x w2 ⟨p, rfl, z2, m2, b2⟩
    have ap : Hid (AlL p.data.toList) := al_of_tab m2
    clear m2
    go_wp2_with fail
    refine (map_any query ⟨#[113, 61, 38]⟩ _ (by omega) ⟨by decide, by decide⟩).mono ?_
    rintro x w3 ⟨rq, rfl, z3, m3, b3⟩
    clear m3
    go_wp2_with fail
    refine (map_any frag ⟨#[102, 103]⟩ _ (by omega) ⟨by decide, by decide⟩).mono ?_
    rintro x w4 ⟨fg, rfl, z4, m4, b4⟩
    clear m4
    have bb4 : Below w.heap.size w w4 := ((b1.trans (b2.mono b1.size)).trans (b3.mono (Nat.le_trans b1.size b2.size))).trans (b4.mono (Nat.le_trans b1.size (Nat.le_trans b2.size b3.size)))
    clear b1 b2 b3 b4
    go_wp2_with fail
    refine (map_any elem ⟨#[97, 98, 47, 46, 120]⟩ _ (by omega) ⟨by decide, by decide⟩).mono ?_
    rintro x w5 ⟨e, rfl, z5, m5, b5⟩
    have ae : Hid (AlL e.data.toList) := al_of_tab m5
    clear m5
    have hs4 : w.heap.size ≤ w4.heap.size := bb4.size
    have hs5 : w4.heap.size + 2 ≤ w5.heap.size := by have := b5.size; simpa using this
    have hu5 : Hid (w5.heap[w4.heap.size]? = some (.cells (ucs sch h1 p fg rq ⟨#[]⟩) 26 (0, 0))) := (b5.block _ (by simp; omega)).trans ((Below.heap_alloc _ _ _ (by simp)).trans (heap_alloc_new w4 _))
    have hb5 : Hid (w5.heap[w4.heap.size + 1]? = some (.cells (ucs sch h1 p fg rq ⟨#[]⟩) 26 (0, 0))) := (b5.block _ (by simp)).trans (heap_alloc_at _ _ (by simp))
    have bb5 : Below w.heap.size w w5 := ((bb4.alloc hs4 _).alloc (by simp; omega) _).trans (b5.mono (by simp; omega))
    clear b5
    have t5 : Tab w5 := ht.below bb5 ht.lt
    have z2' : p.size ≤ 65536 := by omega
    have z5' : e.size ≤ 65536 := by omega
    go_wp2_with fail
    refine (benchJoin_any w4.heap.size sch h1 p fg rq e _ z2' z5' ap.out ae.out t5 (Nat.lt_of_lt_of_le ht.lt hs4) hu5.out).mono ?_
    rintro x w6 ⟨nb, rfl, hnb, hn6, b6⟩
    have hst : St w w4.heap.size nb sch h1 p fg rq (P3 p e) w6 := ⟨bb5.trans (b6.mono bb5.size), (b6.block _ (by omega)).trans hu5.out, (b6.block _ (by omega)).trans hb5.out, hn6⟩
    have t6 : Tab w6 := t5.below b6 t5.lt
    obtain ⟨j, hj, hjs⟩ := info26
    have heq := run_eql_ptr_other (P := Ybad.prog) (w := w6) (tp := 22) (te := 26) (a := ⟨nb, 0, none⟩) (b := ⟨w4.heap.size, 0, none⟩) Ybad.underlying22 hj hjs (fun e => by injection e with e; omega) hst.hn hst.hu
    clear t5 bb5 b6 hn6 hu5 hb5
    have hbp : w6.cell? ⟨w4.heap.size + 1, 4, none⟩ = some (.string p) := (cell_blk hst.hb).trans rfl
    have HF : Hid (Facts p e) := facts p e z2' z5' ap.out ae.out
    have HP2 := P2_size p e z2' z5' ap.out ae.out
    go_wp2_with fail
    refine (hasPrefix_any _ _).mono ?_
    rintro x w7 ⟨rfl, rfl⟩
    have HS : Hid (St w w4.heap.size nb sch h1 p fg rq (P3 p e) w7) := hst
    clear hst heq
    go_upto_if 70 with fail
    go_cut [18] (fun s wx => s = .string (P1 p e) ∧ Hid (St w w4.heap.size nb sch h1 p fg rq (P3 p e) wx))
    case first =>
      by_cases hpre : pre p = true
      · have hP1 : P1 p e = J p e := by unfold P1; rw [if_pos hpre]
        have HP1 : Hid (P1 p e = J p e) := hP1
        clear hP1
        rw [hpre]
        go_wp2_with fail
        refine (join2_any w7.heap.size 2 p e _ (by simp) (by simp) (by simp) (by omega) (by omega)).mono ?_
        rintro x w8 ⟨rfl, hb8⟩
        go_wp2_with fail
        go_meet
        case rel => exact ⟨by rw [HP1.out], (HS.out.on ((Below.refl _ _).alloc (Nat.le_refl _) _) (Nat.le_refl _)).on hb8 (by simp)⟩
      · have hpre' : pre p = false := by simpa using hpre
        have HP1 : Hid (P1 p e = (J (sl ++ p) e).extract 1 (J (sl ++ p) e).size) := by unfold P1; rw [if_neg hpre]; rfl
        have hj1 : (1 : Int) ≤ ((J (sl ++ p) e).size : Int) := by have := (HF.out.j2 hpre').1; omega
        have hslp : (sl ++ p).size = p.size + 1 := by simp [ByteArray.size_append]; exact Nat.add_comm _ _
        rw [hpre']
        go_wp2_with fail
        refine (join2_any w7.heap.size 2 (sl ++ p) e _ (by simp) (by simp) (by simp) (by omega) (by omega)).mono ?_
        rintro x w8 ⟨rfl, hb8⟩
        go_wp2_with fail
        go_meet
        case rel => exact ⟨by rw [HP1.out], (HS.out.on ((Below.refl _ _).alloc (Nat.le_refl _) _) (Nat.le_refl _)).on hb8 (by simp)⟩
    case rest =>
      obtain ⟨rfl, HS2⟩ := hcut
      clear HS hbp t6
      have hs1 : (P1 p e).size ≤ 200000 := P1_size p e z2' z5' ap.out ae.out
      go_upto_region 19 with fail
      go_cut [89] (fun s wx => s = .bool (suf e && !suf (P1 p e)) ∧ Hid (St w w4.heap.size nb sch h1 p fg rq (P3 p e) wx))
      case first =>
        by_cases hse : suf e = true
        · by_cases hsp : suf (P1 p e) = true
          · go_wp2_with fail
            refine (hasSuffix_any _ _ (by omega)).mono ?_
            rintro x wy ⟨rfl, rfl⟩
            rw [hse]
            go_wp2_with fail
            refine (hasSuffix_any _ _ (by omega)).mono ?_
            rintro x wy ⟨rfl, rfl⟩
            rw [hsp]
            go_wp2_with fail
            go_meet
            case rel => exact ⟨by rw [hse, hsp]; rfl, HS2⟩
          · have hsp' : suf (P1 p e) = false := by simpa using hsp
            go_wp2_with fail
            refine (hasSuffix_any _ _ (by omega)).mono ?_
            rintro x wy ⟨rfl, rfl⟩
            rw [hse]
            go_wp2_with fail
            refine (hasSuffix_any _ _ (by omega)).mono ?_
            rintro x wy ⟨rfl, rfl⟩
            rw [hsp']
            go_wp2_with fail
            go_meet
            case rel => exact ⟨by rw [hse, hsp']; rfl, HS2⟩
        · have hse' : suf e = false := by simpa using hse
          go_wp2_with fail
          refine (hasSuffix_any _ _ (by omega)).mono ?_
          rintro x wy ⟨rfl, rfl⟩
          rw [hse']
          go_wp2_with fail
          go_meet
          case rel => exact ⟨by rw [hse']; rfl, HS2⟩
      case rest =>
        obtain ⟨rfl, HS3⟩ := hcut
        clear HS2
        go_upto_if 89 with fail
        go_cut [18] (fun s wx => s = .string (P2 p e) ∧ Hid (St w w4.heap.size nb sch h1 p fg rq (P3 p e) wx))
        case first =>
          by_cases hse : suf e = true ∧ suf (P1 p e) = false
          · have h89 : (suf e && !suf (P1 p e)) = true := by rw [hse.1, hse.2]; rfl
            have HY : Hid (P2 p e = P1 p e ++ sl) := by unfold P2; rw [if_pos hse]; rfl
            rw [h89]
            go_wp2_with fail
            go_meet
            case rel => exact ⟨by rw [HY.out], HS3⟩
          · have h89 : (suf e && !suf (P1 p e)) = false := and89 _ _ hse
            have HY : Hid (P2 p e = P1 p e) := by unfold P2; rw [if_neg hse]; rfl
            rw [h89]
            go_wp2_with fail
            go_meet
            case rel => exact ⟨by rw [HY.out], HS3⟩
        case rest =>
          obtain ⟨rfl, HS4⟩ := hcut
          clear HS3 hs1
          go_wp2_with fail
          refine (hasPrefix_any _ _).mono ?_
          rintro x wy ⟨rfl, rfl⟩
          go_upto_if 94 with fail
          go_cut [18] (fun s wx => s = .string (P3 p e) ∧ Hid (St w w4.heap.size nb sch h1 p fg rq (P3 p e) wx))
          case first =>
            by_cases hpp : pre (P2 p e) = true
            · have HY : Hid (P3 p e = P2 p e) := by unfold P3; rw [if_pos hpp]; rfl
              rw [hpp]
              go_wp2_with fail
              go_meet
              case rel => exact ⟨by rw [HY.out], HS4⟩
            · have hpp' : pre (P2 p e) = false := by simpa using hpp
              have HY : Hid (P3 p e = sl ++ P2 p e) := by unfold P3; rw [if_neg hpp]; rfl
              rw [hpp']
              go_wp2_with fail
              go_meet
              case rel => exact ⟨by rw [HY.out], HS4⟩
          case rest =>
            obtain ⟨rfl, HS5⟩ := hcut
            clear HS4
            obtain ⟨b0, b1, b2, b3, b4, b5, b6, b7, b8, b9, b10⟩ := ucells HS5.out.hb
            have hqs : (P3 p e).size ≤ 200002 := P3_size HP2
            generalize hQ : P3 p e = q3 at *
            clear HP2 HF hQ
            go_wp2_with fail
            obtain ⟨a0, a1, a2, a3, a4, a5, a6, a7, a8, a9, a10⟩ := ucells HS5.out.hu
            obtain ⟨c0, c1, c2, c3, c4, c5, c6, c7, c8, c9, c10⟩ := ucells HS5.out.hn
            have l1 := blk_lt HS5.out.hu
            have l2 := blk_lt HS5.out.hb
            have l3 := blk_lt HS5.out.hn
            have f4 : wc.frozen? ⟨nb, 4, none⟩ = false := frozen_blk HS5.out.hn
            have hp := fun (d : Nat) (w : World) => run_equalIn_pointer_nil (P := Ybad.prog) w d 24 none pt24
            have hnw : w.heap.size ≤ nb := by omega
            have hne1 : ¬ w4.heap.size = nb := by omega
            have hne2 : ¬ w4.heap.size + 1 = nb := by omega
            go_quiet (fail)
            go_wp2_with fail
            go_quiet (fail)
            go_wp2_with fail
            go_ret
            exact ⟨by simp, bdrewN (((bdrewN (HS5.out.bel.alloc HS5.out.bel.size _) _).setCell (p := ⟨nb, 4, none⟩) (by exact hnw) _)) _⟩

set_option maxRecDepth 20000 in
theorem law_long (n : Int) (host base query frag elem : ByteArray) (w : World) (h1 : host.size ≤ 140737488351232) (h2 : base.size ≤ 140737488351232) (h3 : query.size ≤ 140737488351232) (h4 : frag.size ≤ 140737488351232) (h5 : elem.size ≤ 140737488351232)
    (hl : 65536 < host.size + base.size + query.size + frag.size + elem.size) :
    Calls Ybad.prog 3 #[.int .u8 n, .string host, .string base, .string query, .string frag, .string elem] w fun e w' => e = .returned (.bool true) ∧ Below w.heap.size w w' := by
  have hl' : (65536 : Int) < (host.size : Int) + base.size + query.size + frag.size + elem.size := by omega
  go_enter Ybad.func3, Ybad.ntmps3
  go_wp2
  go_ret
  exact ⟨rfl, Below.refl _ _⟩
end Go.Proofs.YbulkdvvcDoor
