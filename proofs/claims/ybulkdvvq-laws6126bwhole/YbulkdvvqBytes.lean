import Derived.Test.YbulkdvvqProg
import Derived.WalkKit
import Derived.WalkSpells
import Derived.Lib.AppendStr
import Derived.Lib.Strings
import Derived.Laws.AppendOwnNone
import Derived.Maps.AppendAt
namespace Go.Proofs.Ybulkdvvq
open Go.RowKit
set_option linter.unusedSimpArgs false

/-- bytes as cells -/
def bv (l : List UInt8) : List Value := l.map fun b => Value.int .u8 (b.toNat : Int)
theorem bv_len (l : List UInt8) : (bv l).length = l.length := by simp [bv]
theorem bv_append (a b : List UInt8) : bv (a ++ b) = bv a ++ bv b := by simp [bv]
theorem bv_one (l : List UInt8) : ∀ u ∈ bv l, u.oneCell' = true := by
  intro u hu
  simp only [bv, List.mem_map] at hu
  obtain ⟨b, _, rfl⟩ := hu
  rfl
theorem strCells_bv (s : ByteArray) : Lib.strCells s = bv s.data.toList := rfl

/-- a slice of bytes that the call owns, from block B on -/
def Byt (w : World) (B : Nat) (v : Value) (l : List UInt8) : Prop := w.ownsRow B 5 1 v l.length (bv l)

theorem info5 : (Yba.prog.info? 5).map (fun i => (i.zero, i.size, i.bytes)) = some (some (.int .u8 0), 1, 1) := by kernel_rfl

theorem Byt.block {w : World} {B : Nat} {v : Value} {l : List UInt8} (h : Byt w B v l) : ∀ k, v.ownBlock = some k → B ≤ k := by
  intro k hk
  rcases h.2 with ⟨rfl, _⟩ | ⟨g, cap, cur, rfl, hb, _⟩
  · simp [Value.ownBlock] at hk
  · simp [Value.ownBlock] at hk; omega
theorem Byt.nil (w : World) (B : Nat) : Byt w B (.slice none 0 0) [] := World.ownsRow_nil w B 5 1
/-- it stays while nothing from B on is written -/
theorem Byt.kept {w w' : World} {B C : Nat} {v : Value} {l : List UInt8} (h : Byt w B v l) (hb : Below C w w') (hC : w.heap.size ≤ C) : Byt w' B v l := by
  refine ⟨h.1, ?_⟩
  rcases h.2 with h2 | ⟨g, cap, cur, hv, hg, hh, r⟩
  · exact Or.inl h2
  · refine Or.inr ⟨g, cap, cur, hv, hg, ?_, r⟩
    have : g < w.heap.size := (Array.getElem?_eq_some_iff.1 hh).1
    rw [hb.block g (by omega)]; exact hh
theorem Byt.lower {w : World} {B B' : Nat} {v : Value} {l : List UInt8} (h : Byt w B v l) (hB : B' ≤ B) : Byt w B' v l := by
  refine ⟨h.1, ?_⟩
  rcases h.2 with h2 | ⟨g, cap, cur, hv, hg, r⟩
  · exact Or.inl h2
  · exact Or.inr ⟨g, cap, cur, hv, Nat.le_trans hB hg, r⟩
theorem Byt.cast {w : World} {B : Nat} {v : Value} {l l' : List UInt8} (h : Byt w B v l) (e : l = l') : Byt w B v l' := e ▸ h
theorem add_block (a : Addr) (j : Nat) : (a.add j).block = a.block := by unfold Addr.add; split <;> rfl
/-- its shape -/
theorem Byt.shape {w : World} {B : Nat} {v : Value} {l : List UInt8} (h : Byt w B v l) : (v = .slice none 0 0 ∧ l = []) ∨ ∃ g cap, v = .slice (some ⟨g, 0, none⟩) l.length cap ∧ l.length ≤ cap ∧ g < w.heap.size ∧ B ≤ g ∧ ∀ i (hi : i < l.length), w.cell? ⟨g, i, none⟩ = some (.int .u8 (l[i].toNat : Int)) := by
  rcases h.2 with ⟨h1, h2⟩ | ⟨g, cap, cur, rfl, hg, hh, hc, _⟩
  · exact Or.inl ⟨h1, List.eq_nil_of_length_eq_zero h2⟩
  · refine Or.inr ⟨g, cap, rfl, hc, (Array.getElem?_eq_some_iff.1 hh).1, hg, fun i hi => ?_⟩
    have := World.ownsRow.cellAt h i (by omega)
    rw [this]
    simp [bv, hi]

/-- w' is w but for v's own row and new blocks; v' lies in v's row or in a new block -/
structure Ext0 (w w' : World) (v v' : Value) : Prop where
  grown : w.grownBy w' v.ownBlock
  loc : v'.ownBlock = v.ownBlock ∨ ∀ k, v'.ownBlock = some k → w.heap.size ≤ k
theorem Ext0.trans {w w1 w2 : World} {v v1 v2 : Value} (h : Ext0 w w1 v v1) (k : Ext0 w1 w2 v1 v2) : Ext0 w w2 v v2 := by
  refine ⟨⟨k.grown.os.trans h.grown.os, k.grown.tape.trans h.grown.tape, k.grown.output.trans h.grown.output, Nat.le_trans h.grown.size k.grown.size, fun j hj hne => ?_⟩, ?_⟩
  · rw [k.grown.block j (Nat.lt_of_lt_of_le hj h.grown.size) (fun e => ?_), h.grown.block j hj hne]
    rcases h.loc with h' | h'
    · exact hne (e.trans h')
    · have := h' j e.symm; omega
  · rcases k.loc with k' | k'
    · rcases h.loc with h' | h'
      · exact Or.inl (k'.trans h')
      · exact Or.inr (fun j hj => h' j (k' ▸ hj))
    · exact Or.inr (fun j hj => Nat.le_trans h.grown.size (k' j hj))
theorem Ext0.below {w w' : World} {v v' : Value} (h : Ext0 w w' v v') {B : Nat} (hB : B ≤ w.heap.size) (hv : ∀ k, v.ownBlock = some k → B ≤ k) : Below B w w' := (Below.refl _ _).grown h.grown hB hv
theorem Ext0.block {w w' : World} {v v' : Value} (h : Ext0 w w' v v') (j : Nat) (hj : j < w.heap.size) (hne : some j ≠ v.ownBlock) : w'.heap[j]? = w.heap[j]? := h.grown.block j hj hne
theorem Ext0.cell {w w' : World} {v v' : Value} (h : Ext0 w w' v v') {b o : Nat} (hj : b < w.heap.size) (hne : some b ≠ v.ownBlock) : w'.cell? ⟨b, o, none⟩ = w.cell? ⟨b, o, none⟩ := World.cell?_of_block (w := w) (h.block b hj hne)
/-- a block that was there and is not v's stays apart from v' -/
theorem Ext0.apart {w w' : World} {v v' : Value} (h : Ext0 w w' v v') {b : Nat} (hj : b < w.heap.size) (hne : some b ≠ v.ownBlock) : some b ≠ v'.ownBlock := by
  intro e
  rcases h.loc with h' | h'
  · exact hne (e.trans h')
  · have := h' b e.symm; omega
/-- a slice's length -/
def slLen : Value → Nat
  | .slice _ n _ => n
  | _ => 0
/-- moreover v's own cells, up to its length, are as they were -/
structure Ext (w w' : World) (v v' : Value) : Prop extends Ext0 w w' v v' where
  loc2 : (v'.ownBlock = v.ownBlock ∧ slLen v ≤ slLen v') ∨ ∀ k, v'.ownBlock = some k → w.heap.size ≤ k
  head : ∀ g i, v.ownBlock = some g → g < w.heap.size → i < slLen v → w'.cell? ⟨g, i, none⟩ = w.cell? ⟨g, i, none⟩
theorem Ext.refl (w : World) (v : Value) : Ext w w v v := ⟨⟨⟨rfl, rfl, rfl, Nat.le_refl _, fun _ _ _ => rfl⟩, Or.inl rfl⟩, Or.inl ⟨rfl, Nat.le_refl _⟩, fun _ _ _ _ _ => rfl⟩
theorem Ext.trans {w w1 w2 : World} {v v1 v2 : Value} (h : Ext w w1 v v1) (k : Ext w1 w2 v1 v2) : Ext w w2 v v2 := by
  refine ⟨h.toExt0.trans k.toExt0, ?_, fun g i hg hw hi => ?_⟩
  · rcases k.loc2 with k' | k'
    · rcases h.loc2 with h' | h'
      · exact Or.inl ⟨k'.1.trans h'.1, Nat.le_trans h'.2 k'.2⟩
      · exact Or.inr (fun j hj => h' j (k'.1 ▸ hj))
    · exact Or.inr (fun j hj => Nat.le_trans h.grown.size (k' j hj))
  · rw [← h.head g i hg hw hi]
    have hw1 : g < w1.heap.size := Nat.lt_of_lt_of_le hw h.grown.size
    rcases h.loc2 with h' | h'
    · exact k.head g i (h'.1.trans hg) hw1 (Nat.lt_of_lt_of_le hi h'.2)
    · exact k.toExt0.cell hw1 (fun e => by have := h' g e.symm; omega)
theorem Ext.alloc (w : World) (o : Obj) (v : Value) : Ext w (w.alloc o) v v := ⟨⟨World.grownBy_alloc w o _, Or.inl rfl⟩, Or.inl ⟨rfl, Nat.le_refl _⟩, fun _ _ _ hw _ => World.cell?_alloc_past _ _ _ hw⟩

section
variable {ops : Array Oper} {rest : List Oper} {o : Oper} {a : Act} {Q : Exit → Act → World → Prop}

theorem str_loc {w w' : World} {B : Nat} {v v' : Value} {l : List UInt8} {t : ByteArray} {ty : TypeId} (hown : Byt w B v l) (hlen : l.length + t.size ≤ 100000000)
    (hr : (Builtin.append_ #[22, 9] ty #[v, .string t]).run Yba.prog w = .ok v' w') (hn : v' = .slice none 0 0 ↔ v = .slice none 0 0 ∧ t.size = 0) (hown' : Byt w' B v' (l ++ t.data.toList)) :
    ((v'.ownBlock = v.ownBlock ∧ slLen v ≤ slLen v') ∨ ∀ k, v'.ownBlock = some k → w.heap.size ≤ k) ∧ ∀ g i, v.ownBlock = some g → g < w.heap.size → i < slLen v → w'.cell? ⟨g, i, none⟩ = w.cell? ⟨g, i, none⟩ := by
  obtain ⟨i0, hi, hz0, hz1, hz2⟩ := info_parts info5
  rcases hown.2 with ⟨rfl, h0⟩ | ⟨g, cap, cur, rfl, hbg, hg, hnc, hcm, hcs, htake⟩
  · refine ⟨?_, fun g i hg => by simp [Value.ownBlock] at hg⟩
    by_cases ht : t.size = 0
    · rw [hn.2 ⟨rfl, ht⟩]; exact Or.inl ⟨rfl, Nat.le_refl _⟩
    · have h := run_append_nil_string (P := Yba.prog) w 22 9 ty 5 i0 (.int .u8 0) Yba.underlying22 Yba.underlying9 hi hz0 t (by omega) (by omega) (by rw [hz2]; omega)
      rw [h] at hr
      injection hr with e1 e2
      rw [← e1]
      exact Or.inr (fun k hk => by simp [Value.ownBlock] at hk; omega)
  · by_cases hroom : l.length + t.size ≤ cap
    · have h := Lib.run_append_room_string (P := Yba.prog) w 22 9 ty 5 i0 Yba.underlying22 Yba.underlying9 hi hz1 g l.length cap cur hg t hroom (by omega)
      rw [h] at hr
      injection hr with e1 e2
      refine ⟨by rw [← e1]; exact Or.inl ⟨rfl, by simp [slLen]⟩, fun g' i hg' _ hi' => ?_⟩
      simp only [Value.ownBlock, Option.some.injEq] at hg'
      subst hg'
      simp only [slLen] at hi'
      rcases hown.shape with ⟨he, _⟩ | ⟨g1, cap1, he, _, _, _, hc1⟩
      · cases he
      · simp only [Value.slice.injEq, Option.some.injEq, Addr.mk.injEq] at he
        obtain ⟨⟨rfl, _⟩, _⟩ := he
        rcases hown'.shape with ⟨he', _⟩ | ⟨g2, cap2, he', _, _, _, hc2⟩
        · rw [← e1] at he'; cases he'
        · rw [← e1] at he'
          simp only [Value.slice.injEq, Option.some.injEq, Addr.mk.injEq] at he'
          obtain ⟨⟨rfl, _⟩, _⟩ := he'
          rw [hc1 i hi', hc2 i (by rw [List.length_append]; omega), List.getElem_append_left hi']
    · have holds := hown.cells (g := g) rfl
      have h := Lib.run_append_grow_string (P := Yba.prog) w 22 9 ty 5 i0 (.int .u8 0) Yba.underlying22 Yba.underlying9 hi hz0 ⟨g, 0, none⟩ l.length cap (bv l) (by rw [hz1, bv_len]; omega) holds t (by omega) (by omega) (by rw [hz2]; exact growslice_fits (by omega) (by omega))
      rw [h] at hr
      injection hr with e1 e2
      refine ⟨by rw [← e1]; exact Or.inr (fun k hk => by simp [Value.ownBlock] at hk; omega), fun g' i hg' hw' _ => ?_⟩
      rw [← e2]
      exact World.cell?_alloc_past _ _ _ hw'

/-- 'append(v, t...)', t a string -/
theorem app_str (w : World) (hgd : o.guard = none) (s x : Operand) (ho : o.op = .call { callee := .builtin .append, args := #[s, x], argTypes := #[22, 9] })
    (B : Nat) (v : Value) (l : List UInt8) (t : ByteArray) (hs : a.eval s = v) (hx : a.eval x = .string t) (hown : Byt w B v l) (hB : B ≤ w.heap.size) (hlen : l.length + t.size ≤ 100000000)
    (h : ∀ v' w', Byt w' B v' (l ++ t.data.toList) → Ext w w' v v' → wpList Yba.prog ops Q rest (a.put o.dst v') w') : wpList Yba.prog ops Q (o :: rest) a w := by
  obtain ⟨i0, hi, hz0, hz1, hz2⟩ := info_parts info5
  refine wpList_plain hgd fun K hK => ?_
  obtain ⟨v', w', hr, h2, h3, h4⟩ := Lib.run_append_own_string (P := Yba.prog) w B 22 9 o.type 5 i0 Yba.underlying22 Yba.underlying9 hi hz0 hz1 hz2 v l.length (bv l) hown t (by unfold maxLen; omega) (by omega) hB
  have h2' : Byt w' B v' (l ++ t.data.toList) := by
    unfold Byt
    rw [bv_append, List.length_append, ← Lib.size_eq]
    exact h2
  have hl := str_loc hown hlen hr h4 h2'
  unfold Oper.wp execOp
  simp only [ho, resolve, invoke, builtin, Sem.run_bind, Sem.run_pure, Result.andThen_ok, List.map_toArray, List.map_cons, List.map_nil, hs, hx, hr]
  have hl1 : v'.ownBlock = v.ownBlock ∨ ∀ k, v'.ownBlock = some k → w.heap.size ≤ k := by
    rcases hl.1 with e | e
    · exact Or.inl e.1
    · exact Or.inr e
  exact hK _ _ (h v' w' h2' ⟨⟨h3, hl1⟩, hl.1, hl.2⟩)

/-- 'append(v, ys...)', ys a slice of bytes that is not nil -/
theorem app_bytes (w : World) (hgd : o.guard = none) (s x : Operand) (ho : o.op = .call { callee := .builtin .append, args := #[s, x], argTypes := #[22, 22] })
    (B : Nat) (v : Value) (l k : List UInt8) (ad : Addr) (m c : Nat) (hs : a.eval s = v) (hx : a.eval x = .slice (some ad) m c) (hm : k.length = m) (hc : ∀ j (hj : j < k.length), w.cell? (ad.add j) = some (.int .u8 (k[j].toNat : Int)))
    (hown : Byt w B v l) (hB : B ≤ w.heap.size) (hlen : l.length + m ≤ 100000000)
    (h : ∀ v' w', Byt w' B v' (l ++ k) → Ext0 w w' v v' → wpList Yba.prog ops Q rest (a.put o.dst v') w') : wpList Yba.prog ops Q (o :: rest) a w := by
  obtain ⟨i0, hi, hz0, hz1, hz2⟩ := info_parts info5
  refine wpList_append_own_at w hgd s x 22 ho B 5 i0 (.int .u8 0) 1 1 Yba.underlying22 hi hz0 hz1 hz2 rfl (by decide) v l.length (bv l) hs hown ad m c (bv k) hx (by rw [bv_len, hm]; omega) ?_ (bv_one k) (by unfold maxLen; omega) (by omega) hB ?_
  · intro j u hj
    have hj' : j < k.length := by
      have := (List.getElem?_eq_some_iff.1 hj).1
      rwa [bv_len] at this
    rw [hc j hj']
    simp only [bv, List.getElem?_map, List.getElem?_eq_getElem hj', Option.map_some, Option.some.injEq] at hj
    rw [hj]
  · intro v' w' h1 h2 _ h4
    have hl1 : v'.ownBlock = v.ownBlock ∨ ∀ k, v'.ownBlock = some k → w.heap.size ≤ k := by
      rcases h4 with e | e
      · exact Or.inl e
      · refine Or.inr (fun k hk => ?_)
        rw [e] at hk; injection hk with hk; omega
    refine h v' w' ?_ ⟨h2, hl1⟩
    unfold Byt
    rw [bv_append, List.length_append, hm]
    exact h1

/-- 'append(v, ys...)', ys nil -/
theorem app_none (w : World) (hgd : o.guard = none) (s x : Operand) (ho : o.op = .call { callee := .builtin .append, args := #[s, x], argTypes := #[22, 22] })
    (B : Nat) (v : Value) (l : List UInt8) (hs : a.eval s = v) (hx : a.eval x = .slice none 0 0) (hown : Byt w B v l)
    (h : wpList Yba.prog ops Q rest (a.put o.dst v) w) : wpList Yba.prog ops Q (o :: rest) a w := by
  obtain ⟨i0, hi, hz0, hz1, hz2⟩ := info_parts info5
  exact wpList_append_own_none hgd s x 22 ho B 5 i0 1 Yba.underlying22 hi v l.length (bv l) hs hown hx h
end

theorem len_app (l : List UInt8) (t : ByteArray) : (l ++ t.data.toList).length = l.length + t.size := by rw [List.length_append, ← Lib.size_eq]
theorem tilde_size : (⟨#[126]⟩ : ByteArray).size = 1 := rfl

/-- appendOpening -/
theorem opening_any (B : Nat) (v : Value) (l : List UInt8) (op : ByteArray) (st : Bool) (w : World) (hown : Byt w B v l) (hB : B ≤ w.heap.size) (hlen : l.length + op.size ≤ 50000000) :
    Calls Yba.prog 16 #[v, .string op, .bool st] w fun e w' => ∃ v', e = .returned v' ∧ Byt w' B v' (l ++ op.data.toList ++ (if st then [126] else [])) ∧ Ext w w' v v' := by
  have HO : Hid (Byt w B v l) := hown
  clear hown
  cases st
  · go_enter Yba.func16, Yba.ntmps16
    go_wp2_with (at_builtin; refine app_str _ rfl (.tmp 7) (.tmp 8) rfl B _ _ _ rfl rfl HO.out hB (by omega) ?_; intro v1 w1 h1 b1)
    go_ret
    exact ⟨_, rfl, by simpa using h1, b1⟩
  · go_enter Yba.func16, Yba.ntmps16
    go_wp2_with (first
      | (at_builtin; refine app_str _ rfl (.tmp 7) (.tmp 8) rfl B _ _ _ rfl rfl HO.out hB (by omega) ?_; intro v1 w1 h1 b1; have H1 : Hid (Byt w1 _ v1 _) := h1; clear h1)
      | (at_builtin; refine app_str _ rfl (.tmp 11) (.const (.string ⟨#[126]⟩)) rfl B _ _ _ rfl rfl H1.out (Nat.le_trans hB b1.grown.size) (by rw [len_app, tilde_size]; omega) ?_; intro v2 w2 h2 b2; have H2 : Hid (Byt w2 _ v2 _) := h2; clear h2))
    go_ret
    exact ⟨_, rfl, H2.out.cast (by simp), b1.trans b2⟩

/-- appendClosing -/
theorem closing_any (B : Nat) (v : Value) (l : List UInt8) (op : ByteArray) (st : Bool) (w : World) (hown : Byt w B v l) (hB : B ≤ w.heap.size) (hlen : l.length + op.size ≤ 50000000) :
    Calls Yba.prog 18 #[v, .string op, .bool st] w fun e w' => ∃ v', e = .returned v' ∧ Byt w' B v' (l ++ (if st then [126] else []) ++ op.data.toList) ∧ Ext w w' v v' := by
  have HO : Hid (Byt w B v l) := hown
  clear hown
  cases st
  · go_enter Yba.func18, Yba.ntmps18
    go_wp2_with (at_builtin; refine app_str _ rfl (.tmp 10) (.tmp 11) rfl B _ _ _ rfl rfl HO.out hB (by omega) ?_; intro v1 w1 h1 b1)
    go_ret
    exact ⟨_, rfl, by simpa using h1, b1⟩
  · go_enter Yba.func18, Yba.ntmps18
    go_wp2_with (first
      | (at_builtin; refine app_str _ rfl (.tmp 8) (.const (.string ⟨#[126]⟩)) rfl B _ _ _ rfl rfl HO.out hB (by rw [tilde_size]; omega) ?_; intro v1 w1 h1 b1; have H1 : Hid (Byt w1 _ v1 _) := h1; clear h1)
      | (at_builtin; refine app_str _ rfl (.tmp 10) (.tmp 11) rfl B _ _ _ rfl rfl H1.out (Nat.le_trans hB b1.grown.size) (by rw [len_app, tilde_size]; omega) ?_; intro v2 w2 h2 b2; have H2 : Hid (Byt w2 _ v2 _) := h2; clear h2))
    go_ret
    exact ⟨_, rfl, H2.out.cast (by simp), b1.trans b2⟩

/-- (*PathExpression).appendText -/
theorem path_any (B pb : Nat) (v : Value) (l : List UInt8) (t : ByteArray) (w : World) (hc : w.cell? ⟨pb, 0, none⟩ = some (.string t)) (hown : Byt w B v l) (hB : B ≤ w.heap.size) (hlen : l.length + t.size ≤ 50000000) :
    Calls Yba.prog 19 #[.pointer (some ⟨pb, 0, none⟩), v] w fun e w' => ∃ v', e = .returned v' ∧ Byt w' B v' (l ++ t.data.toList) ∧ Ext w w' v v' := by
  have HO : Hid (Byt w B v l) := hown
  clear hown
  go_enter Yba.func19, Yba.ntmps19
  go_wp2_with (at_builtin; refine app_str _ rfl (.tmp 5) (.tmp 9) rfl B _ _ _ rfl rfl HO.out hB (by omega) ?_; intro v1 w1 h1 b1; have H1 : Hid (Byt w1 _ v1 _) := h1; clear h1)
  go_ret
  exact ⟨_, rfl, H1.out, b1⟩

/-- zzs6126bhead -/
theorem head_0 (w : World) : Calls Yba.prog 9 #[.int .i64 0] w fun e w' => e = .returned (.string ⟨#[123, 123]⟩) ∧ w' = w := by
  go_enter Yba.func9, Yba.ntmps9
  go_wp2
  go_ret
  exact ⟨rfl, rfl⟩
theorem head_1 (w : World) : Calls Yba.prog 9 #[.int .i64 1] w fun e w' => e = .returned (.string ⟨#[123, 123, 38]⟩) ∧ w' = w := by
  go_enter Yba.func9, Yba.ntmps9
  go_wp2
  go_ret
  exact ⟨rfl, rfl⟩
theorem head_2 (w : World) : Calls Yba.prog 9 #[.int .i64 2] w fun e w' => e = .returned (.string ⟨#[123, 123, 123]⟩) ∧ w' = w := by
  go_enter Yba.func9, Yba.ntmps9
  go_wp2
  go_ret
  exact ⟨rfl, rfl⟩
/-- zzs6126bend -/
theorem end_0 (w : World) : Calls Yba.prog 10 #[.int .i64 0] w fun e w' => e = .returned (.string ⟨#[125, 125]⟩) ∧ w' = w := by
  go_enter Yba.func10, Yba.ntmps10
  go_wp2
  go_ret
  exact ⟨rfl, rfl⟩
theorem end_1 (w : World) : Calls Yba.prog 10 #[.int .i64 1] w fun e w' => e = .returned (.string ⟨#[125, 125]⟩) ∧ w' = w := by
  go_enter Yba.func10, Yba.ntmps10
  go_wp2
  go_ret
  exact ⟨rfl, rfl⟩
theorem end_2 (w : World) : Calls Yba.prog 10 #[.int .i64 2] w fun e w' => e = .returned (.string ⟨#[125, 125, 125]⟩) ∧ w' = w := by
  go_enter Yba.func10, Yba.ntmps10
  go_wp2
  go_ret
  exact ⟨rfl, rfl⟩

/-- slices.Clone of bytes: nil -/
theorem cloneB_nil (w : World) (B : Nat) : Calls Yba.prog 6 #[.slice none 0 0] w fun e w' => ∃ v', e = .returned v' ∧ Byt w' B v' [] ∧ Below w.heap.size w w' := by
  have hn := fun (w : World) => Lib.run_eql_slice_nil (P := Yba.prog) w 22 5 none 0 0 0 0 Yba.underlying22
  go_enter Yba.func6, Yba.ntmps6
  go_wp2
  go_ret
  exact ⟨_, rfl, Byt.nil _ _, Below.refl _ _⟩

/-- slices.Clone of bytes: not nil -/
theorem cloneB_some (ad : Addr) (k : List UInt8) (c : Nat) (w : World) (hlt : ∀ j, j < k.length → ad.block < w.heap.size) (hk : k.length ≤ 50000000) (hc : ∀ j (hj : j < k.length), w.cell? (ad.add j) = some (.int .u8 (k[j].toNat : Int))) :
    Calls Yba.prog 6 #[.slice (some ad) k.length c] w fun e w' => ∃ v', e = .returned v' ∧ Byt w' w.heap.size v' k ∧ Below w.heap.size w w' := by
  have hn := fun (w : World) => Lib.run_eql_slice_nil (P := Yba.prog) w 22 5 (some ad) k.length c 0 0 Yba.underlying22
  have HC : Hid (∀ j (hj : j < k.length), (w.alloc (.cells #[] 5)).cell? (ad.add j) = some (.int .u8 (k[j].toNat : Int))) := fun j hj => by
    exact (World.cell?_alloc_lt w _ (ad.add j) (by rw [add_block]; exact hlt j hj)).trans (hc j hj)
  have hb0 : Hid (Byt (w.alloc (.cells #[] 5)) w.heap.size (.slice (some ⟨w.heap.size, 0, none⟩) 0 0) []) := World.ownsRow_lit w #[] 0 (Nat.le_refl _) (by unfold maxLen; omega) rfl
  clear hc
  go_enter Yba.func6, Yba.ntmps6
  go_wp2_with (at_builtin; refine app_bytes _ rfl (.tmp 5) (.tmp 6) rfl w.heap.size _ [] k ad k.length c rfl rfl rfl HC.out hb0.out (by simp) (by simp; omega) ?_; intro v1 w1 h1 b1; have H1 : Hid (Byt w1 _ v1 _) := h1; clear h1)
  go_ret
  exact ⟨_, rfl, H1.out.cast (by simp), ((Below.refl _ _).alloc (Nat.le_refl _) _).trans (b1.below (by simp) hb0.out.block)⟩
end Go.Proofs.Ybulkdvvq
