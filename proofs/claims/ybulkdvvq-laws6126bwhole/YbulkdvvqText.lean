import Derived.Test.YbulkdvvqCall
import Derived.BigQuiet
import Derived.Deep.QuietTactic
import Derived.Deep.RegionHeld3
import Derived.Deep.DrawnRows
namespace Go.Proofs.Ybulkdvvq
open Go.RowKit
set_option linter.unusedSimpArgs false

def opS (esc amp : Bool) : ByteArray := if !esc && !amp then ⟨#[123, 123, 123]⟩ else ⟨#[123, 123]⟩
def clS (esc amp : Bool) : ByteArray := if !esc && !amp then ⟨#[125, 125, 125]⟩ else ⟨#[125, 125]⟩
def amS (esc amp : Bool) : List UInt8 := if !esc && amp then [38] else []
def tild (b : Bool) : List UInt8 := if b then [126] else []
/-- what appendText writes -/
def textOf (esc amp so sc : Bool) (pt bf af : ByteArray) (sp ps : List ByteArray) : List UInt8 :=
  (opS esc amp).data.toList ++ tild so ++ amS esc amp ++ bf.data.toList ++ pt.data.toList ++ argsTo sp ps ps.length ++ af.data.toList ++ tild sc ++ (clS esc amp).data.toList

/-- the statement's cells -/
structure Must (w : World) (sb pb : Nat) (ea sa : Option Addr) (en ec sn ss : Nat) (esc amp so sc : Bool) (bf af : ByteArray) : Prop where
  c0 : w.cell? ⟨sb, 0, none⟩ = some (.pointer (some ⟨pb, 0, none⟩))
  c1 : w.cell? ⟨sb, 1, none⟩ = some (.slice ea en ec)
  c2 : w.cell? ⟨sb, 2, none⟩ = some (.bool esc)
  c3 : w.cell? ⟨sb, 3, none⟩ = some (.bool amp)
  c4 : w.cell? ⟨sb, 4, none⟩ = some (.bool so)
  c5 : w.cell? ⟨sb, 5, none⟩ = some (.bool sc)
  c6 : w.cell? ⟨sb, 6, none⟩ = some (.string bf)
  c7 : w.cell? ⟨sb, 7, none⟩ = some (.slice sa sn ss)
  c8 : w.cell? ⟨sb, 8, none⟩ = some (.string af)
theorem Must.kept {w w' : World} {sb pb : Nat} {ea sa : Option Addr} {en ec sn ss : Nat} {esc amp so sc : Bool} {bf af : ByteArray} (h : Must w sb pb ea sa en ec sn ss esc amp so sc bf af)
    (hk : ∀ o, w'.cell? ⟨sb, o, none⟩ = w.cell? ⟨sb, o, none⟩) : Must w' sb pb ea sa en ec sn ss esc amp so sc bf af :=
  ⟨(hk _).trans h.c0, (hk _).trans h.c1, (hk _).trans h.c2, (hk _).trans h.c3, (hk _).trans h.c4, (hk _).trans h.c5, (hk _).trans h.c6, (hk _).trans h.c7, (hk _).trans h.c8⟩
theorem Exps.kept {w w' : World} {B : Nat} {a : Option Addr} {ps : List ByteArray} (h : Exps w B a ps) (hk : ∀ b o, b < B → w'.cell? ⟨b, o, none⟩ = w.cell? ⟨b, o, none⟩) : Exps w' B a ps := by
  rcases h with h | ⟨b, h1, h2, h3⟩
  · exact Or.inl h
  · refine Or.inr ⟨b, h1, h2, fun i hi => ?_⟩
    obtain ⟨pb, p1, p2, p3⟩ := h3 i hi
    exact ⟨pb, p1, (hk _ _ h2).trans p2, (hk _ _ p1).trans p3⟩
theorem RdSB.kept {w w' : World} {B : Nat} {a : Option Addr} {ps : List ByteArray} (h : RdSB w B a ps) (hk : ∀ b o, b < B → w'.cell? ⟨b, o, none⟩ = w.cell? ⟨b, o, none⟩) : RdSB w' B a ps := by
  rcases h with h | ⟨b, off, h1, h2, h3⟩
  · exact Or.inl h
  · exact Or.inr ⟨b, off, h1, h2, fun i hi => (hk _ _ h2).trans (h3 i hi)⟩
theorem Ext.old {w w' : World} {B : Nat} {v v' : Value} {l : List UInt8} (h : Ext w w' v v') (hown : Byt w B v l) (hB : B ≤ w.heap.size) : ∀ b o, b < B → w'.cell? ⟨b, o, none⟩ = w.cell? ⟨b, o, none⟩ :=
  fun b o hb => h.cell (by omega) (fun e => by have := hown.block _ e.symm; omega)
theorem Ext.drew (w : World) (v : Value) : Ext w w.drew v v := ⟨⟨⟨rfl, rfl, rfl, Nat.le_refl _, fun _ _ _ => rfl⟩, Or.inl rfl⟩, Or.inl ⟨rfl, Nat.le_refl _⟩, fun _ _ _ _ _ => rfl⟩

set_option maxRecDepth 20000 in
set_option maxHeartbeats 1000000 in
/-- (*MustacheStatement).appendText, both tests told -/
theorem text_any (B sb pb : Nat) (v : Value) (l : List UInt8) (pt bf af : ByteArray) (ea sa : Option Addr) (ec ss : Nat) (ps sp : List ByteArray) (esc amp so sc : Bool) (w : World) (hown : Byt w B v l) (hB : B ≤ w.heap.size)
    (hsb : sb < B) (hpb : pb < B) (hpt : w.cell? ⟨pb, 0, none⟩ = some (.string pt)) (hm : Must w sb pb ea sa ps.length ec sp.length ss esc amp so sc bf af) (he : Exps w B ea ps)
    (hs : RdSB w B sa sp) (hl : l.length + pt.size + bf.size + af.size + ps.length + tot ps + tot sp ≤ 9000000) :
    Calls Yba.prog 8 #[.pointer (some ⟨sb, 0, none⟩), v] w fun e w' => ∃ v', e = .returned v' ∧ Byt w' B v' (l ++ textOf esc amp so sc pt bf af sp ps) ∧ Ext w w' v v' := by
  have HO : Hid (Byt w B v l) := hown
  have HE : Hid (Exps w B ea ps) := he
  have HS : Hid (RdSB w B sa sp) := hs
  have HP : Hid (w.cell? ⟨pb, 0, none⟩ = some (.string pt)) := hpt
  have HM : Hid (Must w sb pb ea sa ps.length ec sp.length ss esc amp so sc bf af) := hm
  obtain ⟨m0, m1, m2, m3, m4, m5, m6, m7, m8⟩ := hm
  clear he hs hpt hown
  cases esc <;> cases amp
  · go_enter Yba.func8, Yba.ntmps8
    go_wp2_with fail
    refine (opening_any B _ _ _ so _ HO.out hB (by show _ + 3 ≤ _; omega)).mono ?_
    rintro e w1 ⟨v1, rfl, h1, b1⟩
    have H1 : Hid (Byt w1 B v1 (l ++ [123, 123, 123] ++ if so = true then [126] else [])) := h1
    have B1 : Hid (Ext w w1 v v1) := b1
    obtain ⟨n0, n1, n2, n3, n4, n5, n6, n7, n8⟩ := HM.out.kept (fun o => B1.out.old HO.out hB sb o hsb)
    clear h1 b1 m0 m1 m2 m3 m4 m5 m6 m7 m8
    go_wp2_with fail
    have hlen1 : (l ++ [123, 123, 123] ++ if so = true then [126] else []).length ≤ l.length + 5 := by cases so <;> simp
    go_region_held3 (fun w' => w'.cell? ⟨sb, 0, none⟩ = some (.pointer (some ⟨pb, 0, none⟩)) ∧ w'.cell? ⟨sb, 1, none⟩ = some (.slice ea ps.length ec) ∧ w'.cell? ⟨sb, 6, none⟩ = some (.string bf) ∧ w'.cell? ⟨sb, 7, none⟩ = some (.slice sa sp.length ss) ∧ w'.cell? ⟨sb, 8, none⟩ = some (.string af)) (go_keep)
      (first | (go_at_call 17; refine (call_any B pb v1 _ pt bf af ea sa ec ss ps sp w1.drew H1.out (Nat.le_trans hB B1.out.grown.size) hpb ((B1.out.old HO.out hB pb 0 hpb).trans HP.out) (HE.out.kept (B1.out.old HO.out hB)) (HS.out.kept (B1.out.old HO.out hB)) (by omega)).mono ?_; rintro e w3 ⟨v3, rfl, h3, b3⟩; have H3 : Hid (Byt w3 B v3 _) := h3; have B3 : Hid (Ext w w3 v v3) := B1.out.trans ((Ext.drew _ _).trans b3); clear h3 b3; obtain ⟨k0, k1, k2, k3, k4, k5, k6, k7, k8⟩ := HM.out.kept (fun o => B3.out.old HO.out hB sb o hsb)))
    go_wp2_with fail
    have hlen3 := argsTo_len sp ps ps.length
    refine (closing_any B _ _ _ sc _ H3.out (Nat.le_trans hB B3.out.grown.size) (by simp only [List.length_append, ← Lib.size_eq] at hlen1 ⊢; (first | (show _ + 3 ≤ _; omega) | (show _ + 2 ≤ _; omega)))).mono ?_
    rintro e w4 ⟨v4, rfl, h4, b4⟩
    go_wp2_with fail
    go_ret
    exact ⟨_, rfl, h4.cast (by simp [textOf, opS, clS, amS, tild]), B3.out.trans b4⟩
  · go_enter Yba.func8, Yba.ntmps8
    go_wp2_with fail
    refine (opening_any B _ _ _ so _ HO.out hB (by show _ + 2 ≤ _; omega)).mono ?_
    rintro e w1 ⟨v1, rfl, h1, b1⟩
    have H1 : Hid (Byt w1 B v1 (l ++ [123, 123] ++ if so = true then [126] else [])) := h1
    have B1 : Hid (Ext w w1 v v1) := b1
    obtain ⟨n0, n1, n2, n3, n4, n5, n6, n7, n8⟩ := HM.out.kept (fun o => B1.out.old HO.out hB sb o hsb)
    clear h1 b1 m0 m1 m2 m3 m4 m5 m6 m7 m8
    have hlen0 : (l ++ [123, 123] ++ if so = true then [126] else []).length ≤ l.length + 5 := by cases so <;> simp
    go_wp2_with (at_builtin; refine app_str _ rfl (.tmp 38) (.const (.string ⟨#[38]⟩)) rfl B _ _ _ rfl rfl H1.out (Nat.le_trans hB B1.out.grown.size) (by show _ + 1 ≤ _; omega) ?_; intro v2 w2 h2 b2; have H2 : Hid (Byt w2 B v2 ((l ++ [123, 123] ++ if so = true then [126] else []) ++ [38])) := h2; have B2 : Hid (Ext w w2 v v2) := B1.out.trans b2; clear h2 b2; obtain ⟨p0, p1, p2, p3, p4, p5, p6, p7, p8⟩ := HM.out.kept (fun o => B2.out.old HO.out hB sb o hsb); clear n0 n1 n2 n3 n4 n5 n6 n7 n8)
    have hlen1 : ((l ++ [123, 123] ++ if so = true then [126] else []) ++ [38]).length ≤ l.length + 5 := by cases so <;> simp
    go_region_held3 (fun w' => w'.cell? ⟨sb, 0, none⟩ = some (.pointer (some ⟨pb, 0, none⟩)) ∧ w'.cell? ⟨sb, 1, none⟩ = some (.slice ea ps.length ec) ∧ w'.cell? ⟨sb, 6, none⟩ = some (.string bf) ∧ w'.cell? ⟨sb, 7, none⟩ = some (.slice sa sp.length ss) ∧ w'.cell? ⟨sb, 8, none⟩ = some (.string af)) (go_keep)
      (first | (go_at_call 17; refine (call_any B pb v2 _ pt bf af ea sa ec ss ps sp w2.drew H2.out (Nat.le_trans hB B2.out.grown.size) hpb ((B2.out.old HO.out hB pb 0 hpb).trans HP.out) (HE.out.kept (B2.out.old HO.out hB)) (HS.out.kept (B2.out.old HO.out hB)) (by omega)).mono ?_; rintro e w3 ⟨v3, rfl, h3, b3⟩; have H3 : Hid (Byt w3 B v3 _) := h3; have B3 : Hid (Ext w w3 v v3) := B2.out.trans ((Ext.drew _ _).trans b3); clear h3 b3; obtain ⟨k0, k1, k2, k3, k4, k5, k6, k7, k8⟩ := HM.out.kept (fun o => B3.out.old HO.out hB sb o hsb)))
    go_wp2_with fail
    have hlen3 := argsTo_len sp ps ps.length
    refine (closing_any B _ _ _ sc _ H3.out (Nat.le_trans hB B3.out.grown.size) (by simp only [List.length_append, ← Lib.size_eq] at hlen1 ⊢; (first | (show _ + 3 ≤ _; omega) | (show _ + 2 ≤ _; omega)))).mono ?_
    rintro e w4 ⟨v4, rfl, h4, b4⟩
    go_wp2_with fail
    go_ret
    exact ⟨_, rfl, h4.cast (by simp [textOf, opS, clS, amS, tild]), B3.out.trans b4⟩
  · go_enter Yba.func8, Yba.ntmps8
    go_wp2_with fail
    refine (opening_any B _ _ _ so _ HO.out hB (by show _ + 2 ≤ _; omega)).mono ?_
    rintro e w1 ⟨v1, rfl, h1, b1⟩
    have H1 : Hid (Byt w1 B v1 (l ++ [123, 123] ++ if so = true then [126] else [])) := h1
    have B1 : Hid (Ext w w1 v v1) := b1
    obtain ⟨n0, n1, n2, n3, n4, n5, n6, n7, n8⟩ := HM.out.kept (fun o => B1.out.old HO.out hB sb o hsb)
    clear h1 b1 m0 m1 m2 m3 m4 m5 m6 m7 m8
    go_wp2_with fail
    have hlen1 : (l ++ [123, 123] ++ if so = true then [126] else []).length ≤ l.length + 5 := by cases so <;> simp
    go_region_held3 (fun w' => w'.cell? ⟨sb, 0, none⟩ = some (.pointer (some ⟨pb, 0, none⟩)) ∧ w'.cell? ⟨sb, 1, none⟩ = some (.slice ea ps.length ec) ∧ w'.cell? ⟨sb, 6, none⟩ = some (.string bf) ∧ w'.cell? ⟨sb, 7, none⟩ = some (.slice sa sp.length ss) ∧ w'.cell? ⟨sb, 8, none⟩ = some (.string af)) (go_keep)
      (first | (go_at_call 17; refine (call_any B pb v1 _ pt bf af ea sa ec ss ps sp w1.drew H1.out (Nat.le_trans hB B1.out.grown.size) hpb ((B1.out.old HO.out hB pb 0 hpb).trans HP.out) (HE.out.kept (B1.out.old HO.out hB)) (HS.out.kept (B1.out.old HO.out hB)) (by omega)).mono ?_; rintro e w3 ⟨v3, rfl, h3, b3⟩; have H3 : Hid (Byt w3 B v3 _) := h3; have B3 : Hid (Ext w w3 v v3) := B1.out.trans ((Ext.drew _ _).trans b3); clear h3 b3; obtain ⟨k0, k1, k2, k3, k4, k5, k6, k7, k8⟩ := HM.out.kept (fun o => B3.out.old HO.out hB sb o hsb)))
    go_wp2_with fail
    have hlen3 := argsTo_len sp ps ps.length
    refine (closing_any B _ _ _ sc _ H3.out (Nat.le_trans hB B3.out.grown.size) (by simp only [List.length_append, ← Lib.size_eq] at hlen1 ⊢; (first | (show _ + 3 ≤ _; omega) | (show _ + 2 ≤ _; omega)))).mono ?_
    rintro e w4 ⟨v4, rfl, h4, b4⟩
    go_wp2_with fail
    go_ret
    exact ⟨_, rfl, h4.cast (by simp [textOf, opS, clS, amS, tild]), B3.out.trans b4⟩
  · go_enter Yba.func8, Yba.ntmps8
    go_wp2_with fail
    refine (opening_any B _ _ _ so _ HO.out hB (by show _ + 2 ≤ _; omega)).mono ?_
    rintro e w1 ⟨v1, rfl, h1, b1⟩
    have H1 : Hid (Byt w1 B v1 (l ++ [123, 123] ++ if so = true then [126] else [])) := h1
    have B1 : Hid (Ext w w1 v v1) := b1
    obtain ⟨n0, n1, n2, n3, n4, n5, n6, n7, n8⟩ := HM.out.kept (fun o => B1.out.old HO.out hB sb o hsb)
    clear h1 b1 m0 m1 m2 m3 m4 m5 m6 m7 m8
    go_wp2_with fail
    have hlen1 : (l ++ [123, 123] ++ if so = true then [126] else []).length ≤ l.length + 5 := by cases so <;> simp
    go_region_held3 (fun w' => w'.cell? ⟨sb, 0, none⟩ = some (.pointer (some ⟨pb, 0, none⟩)) ∧ w'.cell? ⟨sb, 1, none⟩ = some (.slice ea ps.length ec) ∧ w'.cell? ⟨sb, 6, none⟩ = some (.string bf) ∧ w'.cell? ⟨sb, 7, none⟩ = some (.slice sa sp.length ss) ∧ w'.cell? ⟨sb, 8, none⟩ = some (.string af)) (go_keep)
      (first | (go_at_call 17; refine (call_any B pb v1 _ pt bf af ea sa ec ss ps sp w1.drew H1.out (Nat.le_trans hB B1.out.grown.size) hpb ((B1.out.old HO.out hB pb 0 hpb).trans HP.out) (HE.out.kept (B1.out.old HO.out hB)) (HS.out.kept (B1.out.old HO.out hB)) (by omega)).mono ?_; rintro e w3 ⟨v3, rfl, h3, b3⟩; have H3 : Hid (Byt w3 B v3 _) := h3; have B3 : Hid (Ext w w3 v v3) := B1.out.trans ((Ext.drew _ _).trans b3); clear h3 b3; obtain ⟨k0, k1, k2, k3, k4, k5, k6, k7, k8⟩ := HM.out.kept (fun o => B3.out.old HO.out hB sb o hsb)))
    go_wp2_with fail
    have hlen3 := argsTo_len sp ps ps.length
    refine (closing_any B _ _ _ sc _ H3.out (Nat.le_trans hB B3.out.grown.size) (by simp only [List.length_append, ← Lib.size_eq] at hlen1 ⊢; (first | (show _ + 3 ≤ _; omega) | (show _ + 2 ≤ _; omega)))).mono ?_
    rintro e w4 ⟨v4, rfl, h4, b4⟩
    go_wp2_with fail
    go_ret
    exact ⟨_, rfl, h4.cast (by simp [textOf, opS, clS, amS, tild]), B3.out.trans b4⟩
end Go.Proofs.Ybulkdvvq
