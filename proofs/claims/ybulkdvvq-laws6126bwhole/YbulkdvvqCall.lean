import Derived.Test.YbulkdvvqEqual
import Derived.Deep.DeepCutAuto
namespace Go.Proofs.Ybulkdvvq
open Go.RowKit
set_option linter.unusedSimpArgs false

/-- the space ahead of argument i -/
def spc (sp : List ByteArray) (i : Nat) : List UInt8 := if (sp.getD i ⟨#[]⟩).data.toList = [] then [32] else (sp.getD i ⟨#[]⟩).data.toList
/-- the arguments from the first to the k-th, each behind its space -/
def argsTo (sp ps : List ByteArray) : Nat → List UInt8
  | 0 => []
  | k + 1 => argsTo sp ps k ++ spc sp k ++ (ps.getD k ⟨#[]⟩).data.toList
/-- the expressions: interface values over blocks of their own, all below B -/
def Exps (w : World) (B : Nat) (a : Option Addr) (ps : List ByteArray) : Prop :=
  ps = [] ∨ ∃ b, a = some ⟨b, 0, none⟩ ∧ b < B ∧ ∀ i (hi : i < ps.length), ∃ pb, pb < B ∧ w.cell? ⟨b, i, none⟩ = some (.iface 27 (.pointer (some ⟨pb, 0, none⟩))) ∧ w.cell? ⟨pb, 0, none⟩ = some (.string ps[i])
/-- strings below B -/
def RdSB (w : World) (B : Nat) (a : Option Addr) (l : List ByteArray) : Prop := l = [] ∨ ∃ b off, a = some ⟨b, off, none⟩ ∧ b < B ∧ ∀ i (hi : i < l.length), w.cell? ⟨b, off + i, none⟩ = some (.string l[i])
def tot (l : List ByteArray) : Nat := (l.map ByteArray.size).sum

theorem Byt.block_lt {w : World} {B : Nat} {v : Value} {l : List UInt8} (h : Byt w B v l) : ∀ k, v.ownBlock = some k → k < w.heap.size := by
  intro k hk
  rcases h.2 with ⟨rfl, _⟩ | ⟨g, cap, cur, rfl, hb, hh, _⟩
  · simp [Value.ownBlock] at hk
  · simp [Value.ownBlock] at hk
    subst hk
    exact (Array.getElem?_eq_some_iff.1 hh).1
theorem call_cells {w wr : World} {B : Nat} {v vr : Value} {l : List UInt8} {x0 x1 x2 : Value} (hown : Byt w B v l) (hB : B ≤ w.heap.size) (hx : Ext (w.alloc (.cells #[x0, x1, x2] 44)) wr v vr) :
    wr.cell? ⟨w.heap.size, 0, none⟩ = some x0 ∧ wr.cell? ⟨w.heap.size, 1, none⟩ = some x1 ∧ wr.cell? ⟨w.heap.size, 2, none⟩ = some x2 ∧ B ≤ wr.heap.size ∧ ∀ q o, q < B → wr.cell? ⟨q, o, none⟩ = w.cell? ⟨q, o, none⟩ := by
  have hne : some w.heap.size ≠ v.ownBlock := fun e => by have := hown.block_lt _ e.symm; omega
  have hsz := hx.grown.size
  simp at hsz
  refine ⟨?_, ?_, ?_, by omega, fun q o hq => ?_⟩
  · rw [hx.cell (by simp) hne]; simp
  · rw [hx.cell (by simp) hne]; simp
  · rw [hx.cell (by simp) hne]; simp
  · have hne' : some q ≠ v.ownBlock := fun e => by have := hown.block _ e.symm; omega
    rw [hx.cell (by simp; omega) hne']
    exact World.cell?_alloc_past _ _ _ (by omega)
/-- the method's name is taken off the program's own table -/
theorem method27 (nm : String) (a : Addr) (w : World) (h : nm = (((Yba.prog.info? 27).bind fun i => i.methods[0]?).map (·.name)).getD "") : (method 210 27 (.pointer (some a)) nm).run Yba.prog w = .ok (19, .pointer (some a)) w := by
  subst h; kernel_rfl
theorem size_getD (l : List ByteArray) (k : Nat) : ((l.getD k ⟨#[]⟩).data.toList).length = ((l.map ByteArray.size).getD k 0) := by
  rw [← Lib.size_eq]
  by_cases h : k < l.length
  · simp [h]
  · simp [List.getElem?_eq_none (Nat.le_of_not_lt h)]
    rfl
theorem sum_getD (l : List Nat) : ∀ k, (l.take k).sum + l.getD k 0 = (l.take (k + 1)).sum := by
  induction l with
  | nil => intro k; simp
  | cons x r ih =>
    intro k
    cases k with
    | zero => simp
    | succ k => have := ih k; simp at this ⊢; omega
theorem sum_take_le (l : List Nat) : ∀ k, (l.take k).sum ≤ l.sum := by
  induction l with
  | nil => intro k; simp
  | cons x r ih =>
    intro k
    cases k with
    | zero => simp
    | succ k => have := ih k; simp; omega
theorem spc_len (sp : List ByteArray) (k : Nat) : (spc sp k).length ≤ 1 + ((sp.map ByteArray.size).getD k 0) := by
  unfold spc
  split
  · simp
  · rw [size_getD]; omega
theorem argsTo_len0 (sp ps : List ByteArray) : ∀ k, (argsTo sp ps k).length ≤ k + ((ps.map ByteArray.size).take k).sum + ((sp.map ByteArray.size).take k).sum
  | 0 => by simp [argsTo]
  | k + 1 => by
    have h1 := argsTo_len0 sp ps k
    have h2 := spc_len sp k
    have h3 := sum_getD (ps.map ByteArray.size) k
    have h4 := sum_getD (sp.map ByteArray.size) k
    have h5 := size_getD ps k
    simp only [argsTo, List.length_append, h5]
    omega
theorem argsTo_len (sp ps : List ByteArray) (k : Nat) : (argsTo sp ps k).length ≤ k + tot ps + tot sp := by
  have h1 := argsTo_len0 sp ps k
  have h2 := sum_take_le (ps.map ByteArray.size) k
  have h3 := sum_take_le (sp.map ByteArray.size) k
  unfold tot
  omega
theorem size_le_tot (l : List ByteArray) (k : Nat) (h : k < l.length) : l[k].size ≤ tot l := by
  have h1 := sum_getD (l.map ByteArray.size) k
  have h2 := sum_take_le (l.map ByteArray.size) (k + 1)
  have h3 : (l.map ByteArray.size).getD k 0 = l[k].size := by simp [h]
  unfold tot
  omega
theorem argsTo_succ (sp ps : List ByteArray) (k : Nat) (h : k < ps.length) (L S : List UInt8) (hs : spc sp k = S) : L ++ argsTo sp ps k ++ S ++ ps[k].data.toList = L ++ argsTo sp ps (k + 1) := by
  subst hs
  simp [argsTo, h]

set_option maxRecDepth 20000 in
set_option maxHeartbeats 1000000 in
/-- appendCall -/
theorem call_any (B pb : Nat) (v : Value) (l : List UInt8) (pt bf af : ByteArray) (ea sa : Option Addr) (ec sc : Nat) (ps sp : List ByteArray) (w : World) (hown : Byt w B v l) (hB : B ≤ w.heap.size)
    (hpb : pb < B) (hpt : w.cell? ⟨pb, 0, none⟩ = some (.string pt)) (he : Exps w B ea ps)
    (hs : RdSB w B sa sp) (hl : l.length + pt.size + bf.size + af.size + ps.length + tot ps + tot sp ≤ 10000000) :
    Calls Yba.prog 17 #[v, .pointer (some ⟨pb, 0, none⟩), .slice ea ps.length ec, .agg #[.string bf, .slice sa sp.length sc, .string af]] w fun e w' =>
      ∃ v', e = .returned v' ∧ Byt w' B v' (l ++ bf.data.toList ++ pt.data.toList ++ argsTo sp ps ps.length ++ af.data.toList) ∧ Ext w w' v v' := by
  have HO : Hid (Byt w B v l) := hown
  have HE : Hid (Exps w B ea ps) := he
  have HS : Hid (RdSB w B sa sp) := hs
  have HP : Hid (w.cell? ⟨pb, 0, none⟩ = some (.string pt)) := hpt
  clear he hs hpt hown
  go_enter Yba.func17, Yba.ntmps17
  go_wp2_with (at_builtin; refine app_str _ rfl (.tmp 12) (.tmp 14) rfl B _ _ _ rfl rfl (HO.out.kept ((Below.refl _ _).alloc (Nat.le_refl _) _) (Nat.le_refl _)) (by simp; omega) (by omega) ?_; intro v1 w1 h1 b1; have H1 : Hid (Byt w1 _ v1 _) := h1; clear h1)
  obtain ⟨x0, x1, x2, xz, xc⟩ := call_cells HO.out hB b1
  have hp1 : w1.cell? ⟨pb, 0, none⟩ = some (.string pt) := (xc pb 0 hpb).trans HP.out
  clear x0 x1 x2 xc
  refine (path_any B pb _ _ pt _ hp1 H1.out xz (by rw [len_app]; omega)).mono ?_
  rintro e w2 ⟨v2, rfl, h2, b2⟩
  have H2 : Hid (Byt w2 B v2 _) := h2
  have X2 : Hid (Ext (w.alloc (.cells #[.string bf, .slice sa sp.length sc, .string af] 44)) w2 v v2) := b1.trans b2
  clear h2 b1 b2 H1 hp1 xz
  go_wp2_with fail
  go_loopw [0, 21] (fun d i wr => ∃ (k : Nat), k ≤ ps.length ∧ i = .int .i64 k ∧ Hid (Byt wr B d (l ++ bf.data.toList ++ pt.data.toList ++ argsTo sp ps k)) ∧ Hid (Ext (w.alloc (.cells #[.string bf, .slice sa sp.length sc, .string af] 44)) wr v d)) (fun _ i _ => ps.length - (intOf i).toNat)
  case atStart => exact ⟨0, Nat.zero_le _, rfl, by simpa [argsTo] using H2, X2⟩
  case round =>
    obtain ⟨k, hk, rfl, HK, XK⟩ := hrel
    obtain ⟨x0, x1, x2, xz, xc⟩ := call_cells HO.out hB XK.out
    have hal := argsTo_len sp ps k
    by_cases hlt : k < ps.length
    · rcases HE.out with hn | ⟨b, rfl, hbB, he⟩
      · rw [hn] at hlt; simp at hlt
      obtain ⟨qb, hqB, e1, e2⟩ := he k hlt
      clear he HE
      have f1 := (xc b k hbB).trans e1
      have f2 := (xc qb 0 hqB).trans e2
      clear e1 e2
      have hlen0 : (l ++ bf.data.toList ++ pt.data.toList ++ argsTo sp ps k).length ≤ 10000000 := by simp only [List.length_append, ← Lib.size_eq]; omega
      have hqz : qb < wr.heap.size := by omega
      have hsz := size_le_tot ps k hlt
      by_cases hks : k < sp.length
      · have hks' : (k : Int) < (sp.length : Int) := by omega
        rcases HS.out with hn | ⟨sb, so, hsa, hsB, hsc⟩
        · rw [hn] at hks; simp at hks
        have g1 := (xc sb (so + k) hsB).trans (hsc k hks)
        rw [hsa] at x1
        have hss := size_le_tot sp k hks
        have HG : Hid (sa = some ⟨sb, so, none⟩) := hsa
        clear xc hsc hsa
        by_cases hem : sp[k].data.toList = []
        · have hem' : sp[k].toList.isEmpty = true := by rw [Lib.toList_data, hem]; rfl
          go_wp2_with (at_builtin; refine app_str _ rfl (.tmp 44) (.tmp 45) rfl B _ _ _ rfl rfl HK.out xz (by show _ + 1 ≤ _; omega) ?_; intro v3 w3 h3 b3; have H3 : Hid (Byt w3 B v3 _) := h3; have B3 : Hid (Ext wr w3 _ v3) := b3; clear h3 b3)
          rw [method27 _ _ _ (by kernel_rfl)]
          go_wp2_with fail
          refine (path_any B qb _ _ ps[k] _ ((B3.out.cell (by omega) (fun e => by have := HK.out.block _ e.symm; omega)).trans f2) H3.out (Nat.le_trans xz B3.out.grown.size) (by rw [List.length_append]; show _ + 1 + _ ≤ _; omega)).mono ?_
          rintro e w4 ⟨v4, rfl, h4, b4⟩
          have H4 : Hid (Byt w4 B v4 _) := h4
          have X4 : Hid (Ext (w.alloc (.cells #[.string bf, .slice sa sp.length sc, .string af] 44)) w4 v v4) := (XK.out.trans B3.out).trans b4
          clear h4 b4
          go_wp2_with fail
          go_roundw
          case rel => exact ⟨k + 1, by omega, by go_num, H4.out.cast (argsTo_succ sp ps k hlt _ _ (by unfold spc; simp [hks, hem])), X4⟩
          case measure => simp [intOf]; omega
        · have hem' : sp[k].toList.isEmpty = false := by
            rw [Lib.toList_data]; cases hh : sp[k].data.toList with
            | nil => exact absurd hh hem
            | cons a t => rfl
          go_wp2_with (at_builtin; refine app_str _ rfl (.tmp 44) (.tmp 45) rfl B _ _ _ rfl rfl HK.out xz (by omega) ?_; intro v3 w3 h3 b3; have H3 : Hid (Byt w3 B v3 _) := h3; have B3 : Hid (Ext wr w3 _ v3) := b3; clear h3 b3)
          rw [method27 _ _ _ (by kernel_rfl)]
          go_wp2_with fail
          refine (path_any B qb _ _ ps[k] _ ((B3.out.cell (by omega) (fun e => by have := HK.out.block _ e.symm; omega)).trans f2) H3.out (Nat.le_trans xz B3.out.grown.size) (by rw [len_app]; skip; omega)).mono ?_
          rintro e w4 ⟨v4, rfl, h4, b4⟩
          have H4 : Hid (Byt w4 B v4 _) := h4
          have X4 : Hid (Ext (w.alloc (.cells #[.string bf, .slice sa sp.length sc, .string af] 44)) w4 v v4) := (XK.out.trans B3.out).trans b4
          clear h4 b4
          go_wp2_with fail
          go_roundw
          case rel => exact ⟨k + 1, by omega, by go_num, H4.out.cast (argsTo_succ sp ps k hlt _ _ (by unfold spc; simp [hks, hem])), X4⟩
          case measure => simp [intOf]; omega
      · have hks' : ¬ (k : Int) < (sp.length : Int) := by omega
        clear xc
        go_wp2_with (at_builtin; refine app_str _ rfl (.tmp 44) (.tmp 45) rfl B _ _ _ rfl rfl HK.out xz (by show _ + 1 ≤ _; omega) ?_; intro v3 w3 h3 b3; have H3 : Hid (Byt w3 B v3 _) := h3; have B3 : Hid (Ext wr w3 _ v3) := b3; clear h3 b3)
        rw [method27 _ _ _ (by kernel_rfl)]
        go_wp2_with fail
        refine (path_any B qb _ _ ps[k] _ ((B3.out.cell (by omega) (fun e => by have := HK.out.block _ e.symm; omega)).trans f2) H3.out (Nat.le_trans xz B3.out.grown.size) (by rw [List.length_append]; show _ + 1 + _ ≤ _; omega)).mono ?_
        rintro e w4 ⟨v4, rfl, h4, b4⟩
        have H4 : Hid (Byt w4 B v4 _) := h4
        have X4 : Hid (Ext (w.alloc (.cells #[.string bf, .slice sa sp.length sc, .string af] 44)) w4 v v4) := (XK.out.trans B3.out).trans b4
        clear h4 b4
        go_wp2_with fail
        go_roundw
        case rel => exact ⟨k + 1, by omega, by go_num, H4.out.cast (argsTo_succ sp ps k hlt _ _ (by unfold spc; simp [List.getElem?_eq_none (Nat.le_of_not_lt hks)])), X4⟩
        case measure => simp [intOf]; omega
    · have hkk : k = ps.length := by omega
      have hlen1 : (l ++ bf.data.toList ++ pt.data.toList ++ argsTo sp ps k).length + af.size ≤ 10000000 := by simp only [List.length_append, ← Lib.size_eq]; omega
      clear xc
      have HKK : Hid (k = ps.length) := hkk
      clear hkk
      go_wp2_with (at_builtin; refine app_str _ rfl (.tmp 51) (.tmp 53) rfl B _ _ _ rfl rfl HK.out xz (by omega) ?_; intro v3 w3 h3 b3; have H3 : Hid (Byt w3 B v3 _) := h3; have B3 : Hid (Ext wr w3 _ v3) := b3; clear h3 b3)
      go_ret
      exact ⟨_, rfl, by rw [← HKK.out]; exact H3.out, (Ext.alloc _ _ _).trans (XK.out.trans B3.out)⟩
end Go.Proofs.Ybulkdvvq
