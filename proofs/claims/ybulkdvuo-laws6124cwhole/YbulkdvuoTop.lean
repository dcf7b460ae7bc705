import Derived.Test.YbulkdvuoLaw
import Derived.Test.YbulkdvuoRows
import Derived.ProofKit
import Derived.SizedLaws
import Derived.OpenShut
import Derived.ChangeSlices
import Derived.Deep.Slices
import Derived.Carry
namespace Go.Proofs.Ybulkdvuo
open Go.ChangeShapes Go.WideShapes Go.ChangeAt Go.RowKit
set_option linter.unusedVariables false
set_option linter.unusedSimpArgs false
theorem cells83 : Yba.prog.cellsOf 83 = 3 := by kernel_rfl
theorem cells31 : Yba.prog.cellsOf 31 = 3 := by kernel_rfl
theorem cells29 : Yba.prog.cellsOf 29 = 4 := by kernel_rfl
theorem cells5 : Yba.prog.cellsOf 5 = 1 := by kernel_rfl
theorem cells4 : Yba.prog.cellsOf 4 = 1 := by kernel_rfl
theorem cells27 : Yba.prog.cellsOf 27 = 1 := by kernel_rfl
theorem cells24 : Yba.prog.cellsOf 24 = 1 := by kernel_rfl
theorem bytes83 : Yba.prog.bytesOf 83 = 3 := by kernel_rfl
/-- the row out of its elements -/
theorem flat_ofG {α : Type} {w : World} {b n : Nat} {f : α → List Value} : ∀ {l : List α} {o : Nat}, (∀ x ∈ l, (f x).length = n) → (∀ i x, l[i]? = some x → w.rangeAt b (o + i * n) (f x)) → w.rangeAt b o (l.flatMap f)
  | [], o, _, _ => fun j v hj => by simp at hj
  | x :: l, o, hf, h => by
    rw [List.flatMap_cons]
    refine rangeAt_join (by simpa using h 0 x rfl) ?_
    rw [hf x (by simp)]
    refine flat_ofG (fun y hy => hf y (by simp [hy])) (fun i y hi => ?_)
    have := h (i + 1) y (by simpa using hi)
    rwa [Nat.add_mul, Nat.one_mul, Nat.add_comm (i * n), ← Nat.add_assoc] at this
theorem spot_none {w : World} {a : Addr} {v : Value} (h : w.cell? a = some v) : a.spot = none := by
  unfold World.cell? at h
  split at h
  · by_cases hs : a.spot.isSome
    · simp [hs] at h
    · simpa using hs
  · cases h
theorem add_some {a : Addr} {j : Nat} (h : a.spot = none) : a.add j = ⟨a.block, a.off + j, none⟩ := by
  obtain ⟨b, o, s⟩ := a
  subst h
  exact Addr.add_mid b o j
theorem weightsAll_mem {H : Type} {e : TypeId} {d : DataW H} {n : Nat} : ∀ {l : List (DataW H)}, d ∈ l → n ∈ d.weights Yba.prog e → n ∈ DataW.weightsAll Yba.prog e l
  | y :: l, h, hn => by
    simp only [DataW.weightsAll, List.mem_append]
    rcases List.mem_cons.1 h with rfl | h
    · exact Or.inl hn
    · exact Or.inr (weightsAll_mem h hn)
section
variable {H : Type} {enc : TypeId × Value → H} {W : World} {fuel : Nat} {cs : List Value} {x : DataW H × List MemPlace}
/-- a slice opened, its elements by f -/
theorem slice_ofG {α : Type} (y0 : α) {f : α → List Value} {ok : α → DataW H → Prop} {t e : TypeId} {k : Nat} (hu : Yba.prog.underlying t = some (.slice e)) (hc : Yba.prog.cellsOf e = k) (hk : 0 < k) (hf : ∀ y, (f y).length = k)
    (ho : ∀ (n : Nat) (cs' : List Value) (d : DataW H) (p : List MemPlace), DataW.trod enc Yba.prog W 0 (fun _ => true) true n e cs' = some (d, p) → ∃ y, cs' = f y ∧ ok y d) (h : DataW.trod enc Yba.prog W 0 (fun _ => true) true fuel t cs = some x) :
    ∃ (l : List α) (a : Option Addr) (cap : Nat), cs = [.slice a l.length cap] ∧ l.length ≤ maxLen ∧ (0 < l.length → ∃ b o, a = some ⟨b, o, none⟩ ∧ b < W.heap.size ∧ W.rangeAt b o (l.flatMap f)) ∧ ((l = [] ∧ x.1 = .nil) ∨ ∃ (D : Nat → DataW H) (sp : List (DataW H)), x.1 = .slice ((List.range l.length).map D) sp ∧ ∀ i y, l[i]? = some y → ok y (D i)) := by
  rcases Go.Deep.open_slice hu h with ⟨hcs, hx⟩ | ⟨ad, len, cap, m, n, D, Pl, hcs, _, hl, hm, hmm, hx0, hx⟩
  · exact ⟨[], none, 0, hcs, by simp, by simp, Or.inl ⟨rfl, by rw [hx]⟩⟩
  · simp only [if_true] at hmm
    rw [hc] at hx
    obtain ⟨F, hF⟩ := @Go.Deep.choose_lt α ⟨y0⟩ len (fun i y => ok y (D i) ∧ ∀ j v, (f y)[j]? = some v → W.cell? ((ad.add (i * k)).add j) = some v) (fun i hi => by
      obtain ⟨cs', h1, h2⟩ := hx i (by omega)
      obtain ⟨y, rfl, hok⟩ := ho _ _ _ _ h2
      obtain ⟨_, hlen, hcell⟩ := World.cells?_some h1
      refine ⟨y, hok, fun j v hj => ?_⟩
      have hjl := (List.getElem?_eq_some_iff.1 hj).1
      have := hcell j (by omega)
      rw [this]; exact hj)
    have hel : ((List.range len).map F).length = len := by simp
    refine ⟨(List.range len).map F, some ad, cap, by rw [hel]; exact hcs, by rw [hel]; omega, fun h0 => ?_, Or.inr ⟨D, (List.range (m - len)).map fun j => D (len + j), by rw [hx0, hel], fun i y hi => ?_⟩⟩
    · rw [hel] at h0
      have hlt0 : 0 < (f (F 0)).length := by rw [hf]; exact hk
      have hc0 := (hF 0 h0).2 0 _ (List.getElem?_eq_getElem hlt0)
      rw [Nat.zero_mul] at hc0
      have ha0 : (ad.add 0).add 0 = ad := by unfold Addr.add; simp
      rw [ha0] at hc0
      have hsp := spot_none hc0
      refine ⟨ad.block, ad.off, by obtain ⟨b, o, s⟩ := ad; simp at hsp; subst hsp; rfl, World.block_lt_of_cell? W _ hc0, ?_⟩
      refine flat_ofG (n := k) (fun y _ => hf y) (fun i y hi => ?_)
      have hil : i < len := by have := (List.getElem?_eq_some_iff.1 hi).1; omega
      simp [hil] at hi
      subst hi
      intro j v hj
      have := (hF i hil).2 j v hj
      rwa [add_some hsp, Addr.add_mid] at this
    · have hil : i < len := by have := (List.getElem?_eq_some_iff.1 hi).1; omega
      simp [hil] at hi
      subst hi
      exact (hF i hil).1
theorem split3 {cs : List Value} (h : cs.length = 3) : cs = (cs.drop 0).take 1 ++ ((cs.drop 1).take 1 ++ (cs.drop 2).take 1) := by
  match cs, h with
  | [a, b, c], _ => rfl
theorem split4 {cs : List Value} (h : cs.length = 4) : cs = (cs.drop 0).take 1 ++ ((cs.drop 1).take 1 ++ ((cs.drop 2).take 1 ++ (cs.drop 3).take 1)) := by
  match cs, h with
  | [a, b, c, d], _ => rfl
theorem wf8 {n : Int} (h : (Lit.int .u8 n).wf = true) : 0 ≤ n ∧ n ≤ 255 := by simpa [Lit.wf, IntKind.min, IntKind.max, IntKind.signed, IntKind.bits] using h
theorem wf16 {n : Int} (h : (Lit.int .i16 n).wf = true) : -32768 ≤ n ∧ n ≤ 32767 := by simpa [Lit.wf, IntKind.min, IntKind.max, IntKind.signed, IntKind.bits] using h
/-- three bytes, opened -/
theorem open83 (h : DataW.trod enc Yba.prog W 0 (fun _ => true) true fuel 83 cs = some x) : ∃ t : Tri, cs = t8 t ∧ T8ok t := by
  obtain ⟨xs, m, _, _, hl, hx, he⟩ := DataW.trod_struct Yba.underlying83 h
  rw [cells83] at hl
  have hx' : xs.length = 3 := hx
  have h0 : DataW.trod enc Yba.prog W 0 (fun _ => true) true m 5 ((cs.drop 0).take (Yba.prog.cellsOf 5)) = xs[0]? := he 0 _ rfl
  have h1 : DataW.trod enc Yba.prog W 0 (fun _ => true) true m 5 ((cs.drop 1).take (Yba.prog.cellsOf 5)) = xs[1]? := he 1 _ rfl
  have h2 : DataW.trod enc Yba.prog W 0 (fun _ => true) true m 5 ((cs.drop 2).take (Yba.prog.cellsOf 5)) = xs[2]? := he 2 _ rfl
  rw [cells5] at h0 h1 h2
  rw [List.getElem?_eq_getElem (by omega)] at h0 h1 h2
  obtain ⟨a, e0, _, w0⟩ := DataW.trod_int Yba.underlying5 h0
  obtain ⟨b, e1, _, w1⟩ := DataW.trod_int Yba.underlying5 h1
  obtain ⟨c, e2, _, w2⟩ := DataW.trod_int Yba.underlying5 h2
  refine ⟨(a, b, c), ?_, wf8 w0, wf8 w1, wf8 w2⟩
  rw [split3 hl, e0, e1, e2]; rfl
/-- a slice of three-byte IDs, opened -/
theorem open24 (h : DataW.trod enc Yba.prog W 0 (fun _ => true) true fuel 24 cs = some x) : ∃ (l : List Tri) (a : Option Addr) (c : Nat), cs = [.slice a l.length c] ∧ Rd8 W a l ∧ (∀ t ∈ l, T8ok t) ∧ ((∀ n ∈ DataW.weights Yba.prog 24 x.1, n ≤ reachBytes) → l.length ≤ 281474976710656) := by
  obtain ⟨l, a, c, e, hm, hr, hd⟩ := slice_ofG (0, 0, 0) (f := t8) (ok := fun t _ => T8ok t) Yba.underlying24 cells83 (by omega) (fun _ => rfl) (fun n cs' d p h' => open83 h') h
  refine ⟨l, a, c, e, hr, fun t ht => ?_, fun hw => ?_⟩
  · rcases hd with ⟨rfl, _⟩ | ⟨D, sp, _, hD⟩
    · simp at ht
    · obtain ⟨i, hi⟩ := List.mem_iff_getElem?.1 ht
      exact hD i t hi
  · rcases hd with ⟨rfl, _⟩ | ⟨D, sp, hx, _⟩
    · simp
    · rw [hx] at hw
      have := hw ((((List.range l.length).map D).length + sp.length) * Yba.prog.bytesOf 83) (by simp [DataW.weights, Yba.underlying24])
      rw [bytes83] at this
      simp [reachBytes] at this
      omega
/-- one given ACK, opened -/
theorem open31 (h : DataW.trod enc Yba.prog W 0 (fun _ => true) true fuel 31 cs = some x) : ∃ y : In1, cs = y.cells ∧ ((-32768 ≤ y.J ∧ y.J ≤ 32767) ∧ (0 ≤ y.nl ∧ y.nl ≤ 255) ∧ (∀ t ∈ y.refs, T8ok t) ∧ Rd8 W y.ra y.refs ∧ ((∀ n ∈ DataW.weights Yba.prog 31 x.1, n ≤ reachBytes) → y.refs.length ≤ 281474976710656)) := by
  obtain ⟨xs, m, _, hxx, hl, hx, he⟩ := DataW.trod_struct Yba.underlying31 h
  rw [cells31] at hl
  have hx' : xs.length = 3 := hx
  have h0 : DataW.trod enc Yba.prog W 0 (fun _ => true) true m 27 ((cs.drop 0).take (Yba.prog.cellsOf 27)) = xs[0]? := he 0 _ rfl
  have h1 : DataW.trod enc Yba.prog W 0 (fun _ => true) true m 24 ((cs.drop 1).take (Yba.prog.cellsOf 24)) = xs[1]? := he 1 _ rfl
  have h2 : DataW.trod enc Yba.prog W 0 (fun _ => true) true m 5 ((cs.drop 2).take (Yba.prog.cellsOf 5)) = xs[2]? := he 2 _ rfl
  rw [cells27] at h0
  rw [cells24] at h1
  rw [cells5] at h2
  have hx1 : xs[1]? = some xs[1] := List.getElem?_eq_getElem (by omega)
  rw [List.getElem?_eq_getElem (by omega)] at h0 h1 h2
  obtain ⟨J, e0, _, w0⟩ := DataW.trod_int Yba.underlying27 h0
  obtain ⟨l, a, c, e1, r1, o1, z1⟩ := open24 h1
  obtain ⟨nl, e2, _, w2⟩ := DataW.trod_int Yba.underlying5 h2
  refine ⟨⟨J, a, l, c, nl⟩, ?_, wf16 w0, wf8 w2, o1, r1, fun hw => z1 (fun n hn => hw n ?_)⟩
  · rw [split3 hl, e0, e1, e2]; rfl
  · rw [hxx]
    simp only [DataW.weights, Yba.underlying31]
    exact DataW.weights_mem_each (j := 1) (t := 24) rfl (by rw [List.getElem?_map, hx1]; rfl) n hn
/-- the given ACKs, opened -/
theorem open23 (h : DataW.trod enc Yba.prog W 0 (fun _ => true) true fuel 23 cs = some x) (hw : ∀ n ∈ DataW.weights Yba.prog 23 x.1, n ≤ reachBytes) : ∃ (l : List In1) (a : Option Addr) (c : Nat), cs = [.slice a l.length c] ∧ RdL W a l ∧ (∀ y ∈ l, y.ok) ∧ (∀ y ∈ l, Rd8 W y.ra y.refs) ∧ l.length ≤ maxLen := by
  obtain ⟨l, a, c, e, hm, hr, hd⟩ := slice_ofG ⟨0, none, [], 0, 0⟩ (f := In1.cells) (ok := fun y d => (-32768 ≤ y.J ∧ y.J ≤ 32767) ∧ (0 ≤ y.nl ∧ y.nl ≤ 255) ∧ (∀ t ∈ y.refs, T8ok t) ∧ Rd8 W y.ra y.refs ∧ ((∀ n ∈ DataW.weights Yba.prog 31 d, n ≤ reachBytes) → y.refs.length ≤ 281474976710656)) Yba.underlying23 cells31 (by omega) (fun _ => rfl) (fun n cs' d p h' => open31 h') h
  have hall : ∀ y ∈ l, y.ok ∧ Rd8 W y.ra y.refs := fun y hy => by
    rcases hd with ⟨rfl, _⟩ | ⟨D, sp, hx, hD⟩
    · simp at hy
    · obtain ⟨i, hi⟩ := List.mem_iff_getElem?.1 hy
      obtain ⟨k1, k2, k3, k4, k5⟩ := hD i y hi
      have hil : i < l.length := (List.getElem?_eq_some_iff.1 hi).1
      refine ⟨⟨k1, k2, k3, k5 (fun n hn => hw n ?_)⟩, k4⟩
      rw [hx]
      simp only [DataW.weights, Yba.underlying23, List.mem_cons, List.mem_append]
      exact Or.inr (Or.inl (weightsAll_mem (List.mem_map.2 ⟨i, List.mem_range.2 hil, rfl⟩) hn))
  exact ⟨l, a, c, e, hr, fun y hy => (hall y hy).1, fun y hy => (hall y hy).2, hm⟩
theorem flat_map8 : ∀ l : List Int, l.flatMap (fun n => [Value.int .u8 n]) = l.map (Value.int .u8)
  | [] => rfl
  | y :: r => by rw [List.flatMap_cons, flat_map8 r]; rfl
/-- bytes, opened -/
theorem open25 (h : DataW.trod enc Yba.prog W 0 (fun _ => true) true fuel 25 cs = some x) : ∃ (l : List Int) (a : Option Addr) (c : Nat), cs = [.slice a l.length c] ∧ Rd1 W a l ∧ (∀ n ∈ l, 0 ≤ n ∧ n ≤ 255) ∧ l.length ≤ maxLen := by
  obtain ⟨l, a, c, e, hm, hr, hd⟩ := slice_ofG (0 : Int) (f := fun n => [Value.int .u8 n]) (ok := fun n _ => 0 ≤ n ∧ n ≤ 255) Yba.underlying25 cells5 (by omega) (fun _ => rfl) (fun n cs' d p h' => by
    obtain ⟨b, e, _, w⟩ := DataW.trod_int Yba.underlying5 h'
    exact ⟨b, e, wf8 w⟩) h
  rw [flat_map8] at hr
  refine ⟨l, a, c, e, hr, fun n hn => ?_, hm⟩
  rcases hd with ⟨rfl, _⟩ | ⟨D, sp, _, hD⟩
  · simp at hn
  · obtain ⟨i, hi⟩ := List.mem_iff_getElem?.1 hn
    exact hD i n hi
/-- the join's four cells, opened -/
theorem open29 (h : DataW.trod enc Yba.prog W 0 (fun _ => true) true fuel 29 cs = some x) : ∃ (on held : Bool) (s J : Int), cs = [.bool on, .bool held, .int .u8 s, .int .i16 J] ∧ (0 ≤ s ∧ s ≤ 255) ∧ (-32768 ≤ J ∧ J ≤ 32767) := by
  obtain ⟨xs, m, _, _, hl, hx, he⟩ := DataW.trod_struct Yba.underlying29 h
  rw [cells29] at hl
  have hx' : xs.length = 4 := hx
  have h0 : DataW.trod enc Yba.prog W 0 (fun _ => true) true m 4 ((cs.drop 0).take (Yba.prog.cellsOf 4)) = xs[0]? := he 0 _ rfl
  have h1 : DataW.trod enc Yba.prog W 0 (fun _ => true) true m 4 ((cs.drop 1).take (Yba.prog.cellsOf 4)) = xs[1]? := he 1 _ rfl
  have h2 : DataW.trod enc Yba.prog W 0 (fun _ => true) true m 5 ((cs.drop 2).take (Yba.prog.cellsOf 5)) = xs[2]? := he 2 _ rfl
  have h3 : DataW.trod enc Yba.prog W 0 (fun _ => true) true m 27 ((cs.drop 3).take (Yba.prog.cellsOf 27)) = xs[3]? := he 3 _ rfl
  rw [cells4] at h0 h1
  rw [cells5] at h2
  rw [cells27] at h3
  rw [List.getElem?_eq_getElem (by omega)] at h0 h1 h2 h3
  obtain ⟨b0, e0, _⟩ := DataW.trod_bool Yba.underlying4 h0
  obtain ⟨b1, e1, _⟩ := DataW.trod_bool Yba.underlying4 h1
  obtain ⟨s, e2, _, w2⟩ := DataW.trod_int Yba.underlying5 h2
  obtain ⟨J, e3, _, w3⟩ := DataW.trod_int Yba.underlying27 h3
  exact ⟨b0, b1, s, J, by rw [split4 hl, e0, e1, e2, e3]; rfl, wf8 w2, wf16 w3⟩
end
set_option maxRecDepth 40000 in
set_option maxHeartbeats 4000000 in
/-- too long: true at once -/
theorem walk_long (id tok per rt now un : Int) (la ha oa : Option Addr) (nl lc nh hc no oc : Nat) (fi fr : Int) (jOn jHeld : Bool) (jS jJ : Int) (w : World) (m1 : nl ≤ maxLen) (m2 : nh ≤ maxLen) (m3 : no ≤ maxLen) (hb : ¬ (nl ≤ 4096 ∧ nh ≤ 4096 ∧ no ≤ 4096)) :
    Calls Yba.prog 3 #[.int .u8 id, .int .u16 tok, .int .u16 per, .int .u8 rt, .int .i32 now, .int .i64 un, .slice la nl lc, .slice ha nh hc, .slice oa no oc, .int .i8 fi, .int .i16 fr, .agg #[.bool jOn, .bool jHeld, .int .u8 jS, .int .i16 jJ]] w fun e w' => e = .returned (.bool true) ∧ Below w.heap.size w w' := by
  unfold maxLen at m1 m2 m3
  by_cases h1 : 4096 < nl
  · have hi : (4096 : Int) < (nl : Int) := by omega
    go_enter Yba.func3, Yba.ntmps3
    go_wp2
    go_ret
    exact ⟨rfl, (Below.refl _ _).alloc (Nat.le_refl _) _⟩
  · have hi : ¬ ((4096 : Int) < (nl : Int)) := by omega
    by_cases h2 : 4096 < nh
    · have hi2 : (4096 : Int) < (nh : Int) := by omega
      go_enter Yba.func3, Yba.ntmps3
      go_wp2
      go_ret
      exact ⟨rfl, (Below.refl _ _).alloc (Nat.le_refl _) _⟩
    · have hi2 : ¬ ((4096 : Int) < (nh : Int)) := by omega
      have hi3 : (4096 : Int) < (no : Int) := by omega
      go_enter Yba.func3, Yba.ntmps3
      go_wp2
      go_ret
      exact ⟨rfl, (Below.refl _ _).alloc (Nat.le_refl _) _⟩
end Go.Proofs.Ybulkdvuo
