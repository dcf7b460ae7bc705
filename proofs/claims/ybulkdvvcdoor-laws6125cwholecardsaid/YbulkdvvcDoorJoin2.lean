import Derived.Test.YbulkdvvcDoorJoin
namespace Go.Proofs.YbulkdvvcDoor
open Go.RowKit Go.Lib
set_option linter.unusedSimpArgs false

theorem ucells {w : World} {b : Nat} {sch host p frag rq raw : ByteArray} (h : w.heap[b]? = some (.cells (ucs sch host p frag rq raw) 26 (0, 0))) :
    w.cell? ⟨b, 0, none⟩ = some (.string sch) ∧ w.cell? ⟨b, 1, none⟩ = some (.string ⟨#[]⟩) ∧ w.cell? ⟨b, 2, none⟩ = some (.pointer none) ∧ w.cell? ⟨b, 3, none⟩ = some (.string host) ∧ w.cell? ⟨b, 4, none⟩ = some (.string p) ∧ w.cell? ⟨b, 5, none⟩ = some (.string frag) ∧ w.cell? ⟨b, 6, none⟩ = some (.string rq) ∧ w.cell? ⟨b, 7, none⟩ = some (.string raw) ∧ w.cell? ⟨b, 8, none⟩ = some (.string ⟨#[]⟩) ∧ w.cell? ⟨b, 9, none⟩ = some (.bool false) ∧ w.cell? ⟨b, 10, none⟩ = some (.bool false) :=
  ⟨(cell_blk h).trans rfl, (cell_blk h).trans rfl, (cell_blk h).trans rfl, (cell_blk h).trans rfl, (cell_blk h).trans rfl, (cell_blk h).trans rfl, (cell_blk h).trans rfl, (cell_blk h).trans rfl, (cell_blk h).trans rfl, (cell_blk h).trans rfl, (cell_blk h).trans rfl⟩

set_option maxRecDepth 20000 in
set_option maxHeartbeats 1000000 in
/-- (*URL).joinPath -/
theorem joinPath_any (ub eb : Nat) (sch host p frag rq e : ByteArray) (w : World) (hp : p.size ≤ 65536) (he : e.size ≤ 65536) (hal : AlL p.data.toList) (hae : AlL e.data.toList) (ht : Tab w) (hu : 0 < ub)
    (hub : w.heap[ub]? = some (.cells (ucs sch host p frag rq ⟨#[]⟩) 26 (0, 0))) (heb : eb < w.heap.size) (ce : w.cell? ⟨eb, 0, none⟩ = some (.string e)) :
    Calls Ybad.prog 13 #[.pointer (some ⟨ub, 0, none⟩), .slice (some ⟨eb, 0, none⟩) 1 1] w fun x w' =>
      ∃ nb, x = .returned (.tuple #[.pointer (some ⟨nb, 0, none⟩), .nilIface]) ∧ w.heap.size ≤ nb ∧ w'.heap[nb]? = some (.cells (ucs sch host (P2 p e) frag rq ⟨#[]⟩) 26 (0, 0)) ∧ Below w.heap.size w w' := by
  have hlt := blk_lt hub
  obtain ⟨i0, hi, hz0, hz1, hz2⟩ := info_parts info9
  have HF : Hid (Facts p e) := facts p e hp he hal hae
  have HA : Hid (AlL p.data.toList) := hal
  have HU : Hid (w.heap[ub]? = some (.cells (ucs sch host p frag rq ⟨#[]⟩) 26 (0, 0))) := hub
  have c4 : w.cell? ⟨ub, 4, none⟩ = some (.string p) := (cell_blk hub).trans rfl
  have c7 : w.cell? ⟨ub, 7, none⟩ = some (.string ⟨#[]⟩) := (cell_blk hub).trans rfl
  clear hal hae hub
  go_enter Ybad.func13, Ybad.ntmps13
  go_wp2_with fail
  refine (escapedPath_any ub p _ (by omega) HA.out ht c4 c7).mono ?_
  rintro x w1 ⟨rfl, hb1⟩
  have ce1 : w1.cell? ⟨eb, 0, none⟩ = some (.string e) := (hb1.cell (by exact heb)).trans ce
  have hz : w.heap.size ≤ w1.heap.size := hb1.size
  clear c4 c7 ce
  have hown : (w1.alloc (.cells #[.string p] 9)).ownsRow w1.heap.size 9 1 (.slice (some ⟨w1.heap.size, 0, none⟩) 1 1) 1 [.string p] :=
    World.ownsRow_lit w1 #[.string p] 1 (Nat.le_refl _) (by unfold maxLen; omega) rfl
  go_wp2_with (at_builtin; refine wpList_append_lies _ rfl (.tmp 11) (.tmp 12) 33 rfl w1.heap.size 9 i0 (.string ⟨#[]⟩) 1 16 Ybad.underlying33 hi hz0 hz1 hz2 rfl (by decide) _ 1 _ rfl hown ⟨eb, 0, none⟩ 1 1 [.string e] rfl rfl ?hn ?h1 (by omega) (by unfold maxLen; omega) (by omega) (by simp) (w1.heap.size + 1) (by simp) ?_)
  case hn =>
    intro j u hj
    match j, hj with
    | 0, hj => simp at hj; subst hj; simp [Addr.add]; rw [World.cell?_alloc_past _ _ _ (by omega)]; exact ce1
    | j + 1, hj => simp at hj
  case h1 => intro u hu; simp at hu; subst hu; rfl
  intro g cap w2 hown2 hgrow _ _
  obtain ⟨q0, q1, qf, hg1, hg2, hcp⟩ := two_owned hown2
  have hb2 : Below w.heap.size w w2 := (hb1.alloc hz _).grown hgrow (by simp; omega) (fun k hk => by simp [Value.ownBlock] at hk; omega)
  clear hown hown2 hgrow hb1 ce1
  by_cases hpre : pre p = true
  · have hP1 : P1 p e = J p e := by unfold P1; rw [if_pos hpre]
    obtain ⟨js, ja⟩ := HF.out.j1 hpre
    have HP1 : Hid (P1 p e = J p e) := hP1
    have HJ : Hid (AlL (J p e).data.toList) := ja
    clear hP1 ja
    have hsz1 : (J p e).size ≤ 200000 := js
    go_wp2_with fail
    refine (hasPrefix_any _ _).mono ?_
    rintro x w3 ⟨rfl, rfl⟩
    rw [hpre]
    go_wp2_with fail
    refine (join2_any g cap p e _ q0 q1 hg2 (by omega) (by omega)).mono ?_
    rintro x w4 ⟨rfl, hb4⟩
    have hb5 : Below w.heap.size w w4 := hb2.trans (hb4.mono hb2.size)
    have d1 : w4.cell? ⟨g, 1, none⟩ = some (.string e) := (hb4.cell (by exact hg2)).trans q1
    clear hb4 q0 q1 qf
    have hU := (hb5.block ub hlt).trans HU.out
    obtain ⟨a0, a1, a2, a3, a4, a5, a6, a7, a8, a9, a10⟩ := ucells hU
    have ht4 : Tab w4 := ht.below hb5 (Nat.lt_trans hu hlt)
    have hz4 : w.heap.size ≤ w4.heap.size := hb5.size
    clear hU
    by_cases hse : suf e = true
    · by_cases hsp : suf (J p e) = true
      · have HY : Hid (P2 p e = (J p e)) := by unfold P2; rw [HP1.out, if_neg (by simp [hsp])]; rfl
        go_wp2_with fail
        refine (hasSuffix_any _ _ (by omega)).mono ?_
        rintro x w5 ⟨rfl, rfl⟩
        rw [hse]
        go_wp2_with fail
        refine (hasSuffix_any _ _ (by omega)).mono ?_
        rintro x w6 ⟨rfl, rfl⟩
        rw [hsp]
        go_wp2_with fail
        refine (setPath_blk w6.heap.size sch host p frag rq ⟨#[]⟩ (J p e) _ (by omega) HJ.out (ht4.below ((Below.refl w6.heap.size w6).alloc (Nat.le_refl _) _) ht4.lt) ht4.lt (heap_alloc_new w6 _)).mono ?_
        rintro x w7 ⟨rfl, hg7, hb7⟩
        go_wp2_with fail
        go_ret2
        refine ⟨w6.heap.size, rfl, hz4, by rw [HY.out]; exact hb7, (hb5.alloc hz4 _).grown hg7 (by simp; omega) (fun k hk => by cases hk; exact hz4)⟩
      · have hsp' : suf (J p e) = false := by simpa using hsp
        have HY : Hid (P2 p e = (J p e) ++ sl) := by unfold P2; rw [HP1.out, if_pos ⟨hse, hsp'⟩]; rfl
        have hsy : ((J p e) ++ sl).size ≤ 200001 := by rw [ByteArray.size_append]; exact Nat.add_le_add hsz1 (Nat.le_refl _)
        go_wp2_with fail
        refine (hasSuffix_any _ _ (by omega)).mono ?_
        rintro x w5 ⟨rfl, rfl⟩
        rw [hse]
        go_wp2_with fail
        refine (hasSuffix_any _ _ (by omega)).mono ?_
        rintro x w6 ⟨rfl, rfl⟩
        rw [hsp']
        go_wp2_with fail
        refine (setPath_blk w6.heap.size sch host p frag rq ⟨#[]⟩ ((J p e) ++ sl) _ (by omega) (al_ls HJ.out) (ht4.below ((Below.refl w6.heap.size w6).alloc (Nat.le_refl _) _) ht4.lt) ht4.lt (heap_alloc_new w6 _)).mono ?_
        rintro x w7 ⟨rfl, hg7, hb7⟩
        go_wp2_with fail
        go_ret2
        refine ⟨w6.heap.size, rfl, hz4, by rw [HY.out]; exact hb7, (hb5.alloc hz4 _).grown hg7 (by simp; omega) (fun k hk => by cases hk; exact hz4)⟩
    · have hse' : suf e = false := by simpa using hse
      have HY : Hid (P2 p e = (J p e)) := by unfold P2; rw [HP1.out, if_neg (by simp [hse'])]; rfl
      go_wp2_with fail
      refine (hasSuffix_any _ _ (by omega)).mono ?_
      rintro x w6 ⟨rfl, rfl⟩
      rw [hse']
      go_wp2_with fail
      refine (setPath_blk w6.heap.size sch host p frag rq ⟨#[]⟩ (J p e) _ (by omega) HJ.out (ht4.below ((Below.refl w6.heap.size w6).alloc (Nat.le_refl _) _) ht4.lt) ht4.lt (heap_alloc_new w6 _)).mono ?_
      rintro x w7 ⟨rfl, hg7, hb7⟩
      go_wp2_with fail
      go_ret2
      refine ⟨w6.heap.size, rfl, hz4, by rw [HY.out]; exact hb7, (hb5.alloc hz4 _).grown hg7 (by simp; omega) (fun k hk => by cases hk; exact hz4)⟩
  · have hpre' : pre p = false := by simpa using hpre
    have hP1 : P1 p e = (J (sl ++ p) e).extract 1 (J (sl ++ p) e).size := by unfold P1; rw [if_neg hpre]
    obtain ⟨j1, js, ja⟩ := HF.out.j2 hpre'
    have HP1 : Hid (P1 p e = (J (sl ++ p) e).extract 1 (J (sl ++ p) e).size) := hP1
    have HJ : Hid (AlL ((J (sl ++ p) e).extract 1 (J (sl ++ p) e).size).data.toList) := ja
    clear hP1 ja
    have hsz1 : ((J (sl ++ p) e).extract 1 (J (sl ++ p) e).size).size ≤ 200000 := by rw [ByteArray.size_extract]; omega
    have hj1 : (1 : Int) ≤ ((J (sl ++ p) e).size : Int) := by omega
    have hslp : (sl ++ p).size = p.size + 1 := by simp [ByteArray.size_append]; exact Nat.add_comm _ _
    go_wp2_with fail
    refine (hasPrefix_any _ _).mono ?_
    rintro x w3 ⟨rfl, rfl⟩
    rw [hpre']
    go_wp2_with fail
    refine (join2_any g cap (sl ++ p) e _ (by simp [go_sem, q0]) (by simp [go_sem, q1]) (by simpa using hg2) (by omega) (by omega)).mono ?_
    rintro x w4 ⟨rfl, hb4⟩
    have hb5 : Below w.heap.size w w4 := (hb2.setCell (p := ⟨g, 0, none⟩) (by exact Nat.le_trans hz hg1) _).trans (hb4.mono (by simpa using hb2.size))
    have d1 : w4.cell? ⟨g, 1, none⟩ = some (.string e) := (hb4.cell (by simpa using hg2)).trans (by simp [go_sem, q1])
    clear hb4 q0 q1 qf
    have hU := (hb5.block ub hlt).trans HU.out
    obtain ⟨a0, a1, a2, a3, a4, a5, a6, a7, a8, a9, a10⟩ := ucells hU
    have ht4 : Tab w4 := ht.below hb5 (Nat.lt_trans hu hlt)
    have hz4 : w.heap.size ≤ w4.heap.size := hb5.size
    clear hU
    by_cases hse : suf e = true
    · by_cases hsp : suf ((J (sl ++ p) e).extract 1 (J (sl ++ p) e).size) = true
      · have HY : Hid (P2 p e = ((J (sl ++ p) e).extract 1 (J (sl ++ p) e).size)) := by unfold P2; rw [HP1.out, if_neg (by simp [hsp])]; rfl
        go_wp2_with fail
        refine (hasSuffix_any _ _ (by omega)).mono ?_
        rintro x w5 ⟨rfl, rfl⟩
        rw [hse]
        go_wp2_with fail
        refine (hasSuffix_any _ _ (by omega)).mono ?_
        rintro x w6 ⟨rfl, rfl⟩
        rw [hsp]
        go_wp2_with fail
        refine (setPath_blk w6.heap.size sch host p frag rq ⟨#[]⟩ ((J (sl ++ p) e).extract 1 (J (sl ++ p) e).size) _ (by omega) HJ.out (ht4.below ((Below.refl w6.heap.size w6).alloc (Nat.le_refl _) _) ht4.lt) ht4.lt (heap_alloc_new w6 _)).mono ?_
        rintro x w7 ⟨rfl, hg7, hb7⟩
        go_wp2_with fail
        go_ret2
        refine ⟨w6.heap.size, rfl, hz4, by rw [HY.out]; exact hb7, (hb5.alloc hz4 _).grown hg7 (by simp; omega) (fun k hk => by cases hk; exact hz4)⟩
      · have hsp' : suf ((J (sl ++ p) e).extract 1 (J (sl ++ p) e).size) = false := by simpa using hsp
        have HY : Hid (P2 p e = ((J (sl ++ p) e).extract 1 (J (sl ++ p) e).size) ++ sl) := by unfold P2; rw [HP1.out, if_pos ⟨hse, hsp'⟩]; rfl
        have hsy : (((J (sl ++ p) e).extract 1 (J (sl ++ p) e).size) ++ sl).size ≤ 200001 := by rw [ByteArray.size_append]; exact Nat.add_le_add hsz1 (Nat.le_refl _)
        go_wp2_with fail
        refine (hasSuffix_any _ _ (by omega)).mono ?_
        rintro x w5 ⟨rfl, rfl⟩
        rw [hse]
        go_wp2_with fail
        refine (hasSuffix_any _ _ (by omega)).mono ?_
        rintro x w6 ⟨rfl, rfl⟩
        rw [hsp']
        go_wp2_with fail
        refine (setPath_blk w6.heap.size sch host p frag rq ⟨#[]⟩ (((J (sl ++ p) e).extract 1 (J (sl ++ p) e).size) ++ sl) _ (by omega) (al_ls HJ.out) (ht4.below ((Below.refl w6.heap.size w6).alloc (Nat.le_refl _) _) ht4.lt) ht4.lt (heap_alloc_new w6 _)).mono ?_
        rintro x w7 ⟨rfl, hg7, hb7⟩
        go_wp2_with fail
        go_ret2
        refine ⟨w6.heap.size, rfl, hz4, by rw [HY.out]; exact hb7, (hb5.alloc hz4 _).grown hg7 (by simp; omega) (fun k hk => by cases hk; exact hz4)⟩
    · have hse' : suf e = false := by simpa using hse
      have HY : Hid (P2 p e = ((J (sl ++ p) e).extract 1 (J (sl ++ p) e).size)) := by unfold P2; rw [HP1.out, if_neg (by simp [hse'])]; rfl
      go_wp2_with fail
      refine (hasSuffix_any _ _ (by omega)).mono ?_
      rintro x w6 ⟨rfl, rfl⟩
      rw [hse']
      go_wp2_with fail
      refine (setPath_blk w6.heap.size sch host p frag rq ⟨#[]⟩ ((J (sl ++ p) e).extract 1 (J (sl ++ p) e).size) _ (by omega) HJ.out (ht4.below ((Below.refl w6.heap.size w6).alloc (Nat.le_refl _) _) ht4.lt) ht4.lt (heap_alloc_new w6 _)).mono ?_
      rintro x w7 ⟨rfl, hg7, hb7⟩
      go_wp2_with fail
      go_ret2
      refine ⟨w6.heap.size, rfl, hz4, by rw [HY.out]; exact hb7, (hb5.alloc hz4 _).grown hg7 (by simp; omega) (fun k hk => by cases hk; exact hz4)⟩
end Go.Proofs.YbulkdvvcDoor
