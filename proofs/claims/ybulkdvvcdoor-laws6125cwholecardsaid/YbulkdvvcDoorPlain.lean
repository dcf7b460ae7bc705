import Derived.Lib.CleanSame
import Derived.Lib.JoinFns
namespace Go.Proofs.YbulkdvvcDoor.Plain
open Go.Lib

/-- every byte is among the five -/
def Al5 (l : List UInt8) : Prop := ∀ c, c ∈ l → c = 97 ∨ c = 98 ∨ c = 47 ∨ c = 46 ∨ c = 120
theorem al_47 {l : List UInt8} (h : Al5 l) : Al5 (47 :: l) := by
  intro c hc
  rcases List.mem_cons.1 hc with rfl | hc
  · simp
  · exact h c hc
theorem al_append {a b : List UInt8} (ha : Al5 a) (hb : Al5 b) : Al5 (a ++ b) := by
  intro c hc
  rcases List.mem_append.1 hc with h | h
  · exact ha c h
  · exact hb c h

theorem els_ne : ∀ l : List UInt8, Pa.els l ≠ []
  | [] => by simp [Pa.els]
  | c :: t => by
    unfold Pa.els
    split
    · simp
    · split <;> simp
theorem els_al : ∀ (l : List UInt8), Al5 l → ∀ e, e ∈ Pa.els l → Al5 e
  | [], _, e, he => by
    simp [Pa.els] at he; subst he; intro c hc; simp at hc
  | c :: t, h, e, he => by
    have ih := els_al t (fun x hx => h x (List.mem_cons_of_mem _ hx))
    have hc := h c (List.mem_cons_self ..)
    unfold Pa.els at he
    split at he
    · rcases List.mem_cons.1 he with rfl | he
      · intro x hx; simp at hx
      · exact ih e he
    · split at he
      · rename_i e0 r heq
        rcases List.mem_cons.1 he with rfl | he
        · intro x hx
          rcases List.mem_cons.1 hx with rfl | hx
          · exact hc
          · exact ih e0 (by rw [heq]; exact List.mem_cons_self ..) x hx
        · exact ih e (by rw [heq]; exact List.mem_cons_of_mem _ he)
      · rcases List.mem_cons.1 he with rfl | he
        · intro x hx
          rcases List.mem_cons.1 hx with rfl | hx
          · exact hc
          · simp at hx
        · simp at he

/-- how much room the elements and their slashes take -/
def wt : List (List UInt8) → Nat
  | [] => 0
  | e :: r => e.length + 1 + wt r
theorem els_wt : ∀ l : List UInt8, wt (Pa.els l) = l.length + 1
  | [] => rfl
  | c :: t => by
    have ih := els_wt t
    unfold Pa.els
    split
    · simp [wt, ih]; omega
    · split
      · rename_i e r heq
        rw [heq] at ih
        simp [wt] at ih ⊢
        omega
      · rename_i heq
        exact absurd heq (els_ne t)

theorem step_mem (ro : Bool) (st : List (List UInt8)) (e x : List UInt8) (h : x ∈ Pa.cleanStep ro st e) : x ∈ st ∨ x = e := by
  unfold Pa.cleanStep at h
  split at h
  · exact Or.inl h
  · split at h
    · split at h
      · split at h
        · rcases List.mem_cons.1 h with h | h
          · exact Or.inr h
          · exact Or.inl h
        · exact Or.inl (List.mem_cons_of_mem _ h)
      · split at h
        · simp at h
        · simp at h; exact Or.inr h
    · rcases List.mem_cons.1 h with h | h
      · exact Or.inr h
      · exact Or.inl h
theorem step_wt (ro : Bool) (st : List (List UInt8)) (e : List UInt8) : wt (Pa.cleanStep ro st e) ≤ wt st + (e.length + 1) := by
  unfold Pa.cleanStep
  split
  · omega
  · split
    · split
      · split
        · simp [wt]; omega
        · simp [wt]; omega
      · split
        · simp [wt]
        · simp [wt]
    · simp [wt]; omega
theorem fold_al (ro : Bool) : ∀ (L st : List (List UInt8)), (∀ e, e ∈ L → Al5 e) → (∀ e, e ∈ st → Al5 e) → ∀ e, e ∈ L.foldl (Pa.cleanStep ro) st → Al5 e
  | [], st, _, hs, e, he => hs e he
  | x :: L, st, hL, hs, e, he => by
    refine fold_al ro L (Pa.cleanStep ro st x) (fun y hy => hL y (List.mem_cons_of_mem _ hy)) (fun y hy => ?_) e he
    rcases step_mem ro st x y hy with h | h
    · exact hs y h
    · rw [h]; exact hL x (List.mem_cons_self ..)
theorem fold_wt (ro : Bool) : ∀ (L st : List (List UInt8)), wt (L.foldl (Pa.cleanStep ro) st) ≤ wt st + wt L
  | [], st => by simp [wt]
  | x :: L, st => by
    have := fold_wt ro L (Pa.cleanStep ro st x)
    have := step_wt ro st x
    simp [wt] at *
    omega
theorem wt_append : ∀ a b : List (List UInt8), wt (a ++ b) = wt a + wt b
  | [], b => by simp [wt]
  | x :: a, b => by have := wt_append a b; simp [wt, this]; omega
theorem wt_reverse : ∀ a : List (List UInt8), wt a.reverse = wt a
  | [] => rfl
  | x :: a => by have := wt_reverse a; simp [wt_append, wt, this]; omega
theorem inter_cons (x y : List UInt8) (r : List (List UInt8)) : ([47] : List UInt8).intercalate (x :: y :: r) = x ++ 47 :: ([47] : List UInt8).intercalate (y :: r) := by
  simp [List.intercalate, List.intersperse]
theorem inter_al : ∀ L : List (List UInt8), (∀ e, e ∈ L → Al5 e) → Al5 (([47] : List UInt8).intercalate L)
  | [], _ => by intro c hc; simp [List.intercalate] at hc
  | [x], h => by intro c hc; simp [List.intercalate] at hc; exact h x (List.mem_cons_self ..) c hc
  | x :: y :: r, h => by
    rw [inter_cons]
    exact al_append (h x (List.mem_cons_self ..)) (al_47 (inter_al (y :: r) (fun e he => h e (List.mem_cons_of_mem _ he))))
theorem inter_len : ∀ L : List (List UInt8), (([47] : List UInt8).intercalate L).length ≤ wt L
  | [] => by simp [List.intercalate, wt]
  | [x] => by simp [List.intercalate, wt]
  | x :: y :: r => by
    rw [inter_cons]
    have := inter_len (y :: r)
    simp [wt] at *
    omega

/-- what path.Join makes of a rooted path and a second one, in the five bytes -/
theorem join_rooted (a b : List UInt8) (ha : Al5 a) (hb : Al5 b) (h : a.head? = some 47) :
    ∃ t, Pa.joinL [a, b] = 47 :: t ∧ Al5 t ∧ t.length ≤ a.length + b.length + 2 := by
  have hne : a ≠ [] := by rintro rfl; simp at h
  have e1 : Pa.joinBuf [a, b] = a ++ 47 :: b := by simp [Pa.joinBuf, Pa.joinStep, hne]
  have e2 : a ++ 47 :: b ≠ [] := by simp
  have e3 : ((a ++ 47 :: b).head? == some 47) = true := by
    cases a with
    | nil => exact absurd rfl hne
    | cons x r => simpa using h
  have e4 : Pa.joinL [a, b] = 47 :: ([47] : List UInt8).intercalate ((Pa.els (a ++ 47 :: b)).foldl (Pa.cleanStep true) []).reverse := by
    unfold Pa.joinL
    rw [e1, if_neg e2, Pa.clean_eq_cleanEls, Pa.cleanEls_abs _ e2 e3]
  refine ⟨_, e4, ?_, ?_⟩
  · refine inter_al _ (fun e he => ?_)
    exact fold_al true _ _ (els_al _ (al_append ha (al_47 hb))) (fun e he => by simp at he) e (List.mem_reverse.1 he)
  · refine Nat.le_trans (inter_len _) ?_
    rw [wt_reverse]
    refine Nat.le_trans (fold_wt _ _ _) ?_
    rw [els_wt]
    simp [wt]
    omega
end Go.Proofs.YbulkdvvcDoor.Plain
