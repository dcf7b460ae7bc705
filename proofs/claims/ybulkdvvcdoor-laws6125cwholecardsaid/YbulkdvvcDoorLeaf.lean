import Derived.Test.YbulkdvvcDoorProg
import Derived.WalkKit
import Derived.WalkSpells
import Derived.BigQuiet
import Derived.Deep.QuietTactic
import Derived.Lib.Strings
namespace Go.Proofs.YbulkdvvcDoor
open Go.RowKit
set_option linter.unusedSimpArgs false

/-- the five bytes of the law's paths -/
def Al (c : UInt8) : Prop := c = 97 ∨ c = 98 ∨ c = 47 ∨ c = 46 ∨ c = 120
def AlL (l : List UInt8) : Prop := ∀ c, c ∈ l → Al c
/-- what the table holds at them -/
structure Tab (w : World) : Prop where
  lt : 0 < w.heap.size
  c97 : w.cell? ⟨0, 97, none⟩ = some (.int .u8 255)
  c98 : w.cell? ⟨0, 98, none⟩ = some (.int .u8 255)
  c47 : w.cell? ⟨0, 47, none⟩ = some (.int .u8 65)
  c46 : w.cell? ⟨0, 46, none⟩ = some (.int .u8 127)
  c120 : w.cell? ⟨0, 120, none⟩ = some (.int .u8 127)
theorem Tab.below {w w' : World} {B : Nat} (h : Tab w) (hb : Below B w w') (hB : 0 < B) : Tab w' :=
  ⟨Nat.lt_of_lt_of_le h.lt hb.size, (hb.cell hB).trans h.c97, (hb.cell hB).trans h.c98, (hb.cell hB).trans h.c47, (hb.cell hB).trans h.c46, (hb.cell hB).trans h.c120⟩

/-- net/url.shouldEscape at the five bytes, in a path -/
theorem shouldEscape_any (c : UInt8) (hc : Al c) (w : World) (ht : Tab w) :
    Calls Ybad.prog 22 #[.int .u8 (c.toNat : Int), .int .u8 1] w fun e w' => e = .returned (.bool false) ∧ w' = w := by
  obtain ⟨h0, h1, h2, h3, h4, h5⟩ := ht
  rcases hc with rfl | rfl | rfl | rfl | rfl
  all_goals
    go_enter Ybad.func22, Ybad.ntmps22
    go_wp2
    go_ret
    exact ⟨rfl, rfl⟩

theorem ret_bool {a b : Bool} (h : a = b) : Ending.returned (.bool a) = .returned (.bool b) := by rw [h]
theorem ret_string {a b : ByteArray} (h : a = b) : Ending.returned (.string a) = .returned (.string b) := by rw [h]
/-- does it begin, does it end with a slash -/
def pre (s : ByteArray) : Bool := Lib.hasPrefix s.data.toList [47]
def suf (s : ByteArray) : Bool := Lib.hasSuffix s.data.toList [47]
theorem pre_pos {s : ByteArray} (h : 1 ≤ s.size) : ((s.extract 0 1).toList == [47]) = pre s := by
  have := Lib.hasPrefix_raw s ⟨#[47]⟩
  rw [show (⟨#[47]⟩ : ByteArray).size = 1 from rfl, decide_eq_true h, Bool.true_and, Lib.toList_data ⟨#[47]⟩] at this
  exact this
theorem pre_nil {s : ByteArray} (h : ¬ 1 ≤ s.size) : false = pre s := by
  have := Lib.hasPrefix_raw s ⟨#[47]⟩
  rw [show (⟨#[47]⟩ : ByteArray).size = 1 from rfl, decide_eq_false h, Bool.false_and] at this
  exact this
theorem suf_pos {s : ByteArray} (h : 1 ≤ s.size) : ((s.extract (s.size - 1) s.size).toList == [47]) = suf s := by
  have := Lib.hasSuffix_raw s ⟨#[47]⟩
  rw [show (⟨#[47]⟩ : ByteArray).size = 1 from rfl, decide_eq_true h, Bool.true_and, Lib.toList_data ⟨#[47]⟩] at this
  exact this
theorem suf_nil {s : ByteArray} (h : ¬ 1 ≤ s.size) : false = suf s := by
  have := Lib.hasSuffix_raw s ⟨#[47]⟩
  rw [show (⟨#[47]⟩ : ByteArray).size = 1 from rfl, decide_eq_false h, Bool.false_and] at this
  exact this

/-- strings.HasPrefix of a slash -/
theorem hasPrefix_any (s : ByteArray) (w : World) :
    Calls Ybad.prog 6 #[.string s, .string ⟨#[47]⟩] w fun e w' => e = .returned (.bool (pre s)) ∧ w' = w := by
  by_cases h : 1 ≤ s.size
  · have hi : (1 : Int) ≤ (s.size : Int) := by omega
    go_enter Ybad.func6, Ybad.ntmps6
    go_wp2
    go_ret
    exact ⟨ret_bool (pre_pos h), rfl⟩
  · have hi : ¬ (1 : Int) ≤ (s.size : Int) := by omega
    go_enter Ybad.func6, Ybad.ntmps6
    go_wp2
    go_ret
    exact ⟨ret_bool (pre_nil h), rfl⟩

/-- strings.HasSuffix of a slash -/
theorem hasSuffix_any (s : ByteArray) (w : World) (hs : s.size ≤ 1000000) :
    Calls Ybad.prog 8 #[.string s, .string ⟨#[47]⟩] w fun e w' => e = .returned (.bool (suf s)) ∧ w' = w := by
  by_cases h : 1 ≤ s.size
  · have hi : (1 : Int) ≤ (s.size : Int) := by omega
    go_enter Ybad.func8, Ybad.ntmps8
    go_wp2
    go_ret
    refine ⟨ret_bool ?_, rfl⟩
    rw [← suf_pos h]
  · have hi : ¬ (1 : Int) ≤ (s.size : Int) := by omega
    go_enter Ybad.func8, Ybad.ntmps8
    go_wp2
    go_ret
    exact ⟨ret_bool (suf_nil h), rfl⟩

theorem Al_lt {c : UInt8} (h : Al c) : (c.toNat : Int) = 97 ∨ (c.toNat : Int) = 98 ∨ (c.toNat : Int) = 47 ∨ (c.toNat : Int) = 46 ∨ (c.toNat : Int) = 120 := by
  rcases h with rfl | rfl | rfl | rfl | rfl <;> decide
theorem Al_at {s : ByteArray} (h : AlL s.data.toList) (k : Nat) (hk : k < s.size) : Al (s[k]) :=
  h _ (by rw [show s[k] = s.data.toList[k]'(by simpa using hk) from rfl]; exact List.getElem_mem _)

set_option maxRecDepth 20000 in
/-- net/url.unescape where nothing is to be unescaped -/
theorem unescape_any (s : ByteArray) (w : World) (hs : s.size ≤ 1000000) (hal : AlL s.data.toList) :
    Calls Ybad.prog 20 #[.string s, .int .u8 1] w fun e w' => e = .returned (.tuple #[.string s, .nilIface]) ∧ w' = w := by
  have HA : Hid (AlL s.data.toList) := hal
  clear hal
  go_enter Ybad.func20, Ybad.ntmps20
  go_wp2
  go_loop [8, 6, 7, 0] (fun i n hp sv => ∃ k : Nat, k ≤ s.size ∧ i = .int .i64 k ∧ n = .int .i64 0 ∧ hp = .bool false ∧ sv = .string s) (fun i _ _ _ => s.size - (intOf i).toNat)
  case atStart => exact ⟨0, Nat.zero_le _, rfl, rfl, rfl, rfl⟩
  case round =>
    obtain ⟨k, hk, rfl, rfl, rfl, rfl⟩ := hrel
    by_cases hlt : k < s.size
    · have ha := Al_lt (Al_at HA.out k hlt)
      have h1 : ((s[k].toNat : Int) == 37) = false := beq_eq_false_iff_ne.2 (by omega)
      have h2 : ((s[k].toNat : Int) == 43) = false := beq_eq_false_iff_ne.2 (by omega)
      clear ha
      go_wp2
      go_round
      case rel => exact ⟨k + 1, by omega, by go_num, rfl, rfl, rfl⟩
      case measure => simp [intOf]; omega
    · go_wp2
      go_ret2
      exact ⟨rfl, rfl⟩

theorem bytesRow_get (s : ByteArray) (cap k : Nat) (hk : k < s.size) : (bytesRow s cap)[k]? = some (.int .u8 (s[k].toNat : Int)) := by
  unfold bytesRow
  rw [Array.getElem?_append_left (by simpa using hk)]
  rw [Array.getElem?_map, Array.getElem?_eq_getElem (by simpa using hk)]
  rfl

set_option maxRecDepth 20000 in
/-- net/url.escape where nothing is to be escaped -/
theorem escape_any (s : ByteArray) (w : World) (hs : s.size ≤ 1000000) (hal : AlL s.data.toList) (ht : Tab w) :
    Calls Ybad.prog 21 #[.string s, .int .u8 1] w fun e w' => e = .returned (.string s) ∧ Below w.heap.size w w' := by
  have HA : Hid (AlL s.data.toList) := hal
  clear hal
  have hcv := run_bytes_of_string (P := Ybad.prog) w 9 31 5 s Ybad.underlying9 Ybad.underlying31 Ybad.underlying5
  obtain ⟨C, hC⟩ : ∃ C, C = bytesRow s (grownCap w s.size 0 5) := ⟨_, rfl⟩
  obtain ⟨cp, hcp⟩ : ∃ c, c = grownCap w s.size 0 5 := ⟨_, rfl⟩
  rw [← hC, ← hcp] at hcv
  have hCg : Hid (∀ k (hk : k < s.size), C[k]? = some (.int .u8 (s[k].toNat : Int))) := fun k hk => by rw [hC]; exact bytesRow_get s _ k hk
  clear hC hcp
  have ht' : Tab (w.alloc (.cells C 5 (C.size, C.size + 1))).drew := ht.below (((Below.refl w.heap.size w).alloc (Nat.le_refl _) _).drew) ht.lt
  have hcell : Hid (∀ k (hk : k < s.size), (w.alloc (.cells C 5 (C.size, C.size + 1))).cell? ⟨w.heap.size, k, none⟩ = some (.int .u8 (s[k].toNat : Int))) := fun k hk => by
    have := World.cell?_alloc_mark w C 5 (C.size, C.size + 1) k
    exact this.trans (hCg.out k hk)
  go_enter Ybad.func21, Ybad.ntmps21
  go_wp2
  go_loop [19, 5, 6] (fun i a b => ∃ k : Nat, k ≤ s.size ∧ i = .int .i64 k ∧ a = .int .i64 0 ∧ b = .int .i64 0) (fun i _ _ => s.size - (intOf i).toNat)
  case atStart => exact ⟨0, Nat.zero_le _, rfl, rfl, rfl⟩
  case round =>
    obtain ⟨k, hk, rfl, rfl, rfl⟩ := hrel
    by_cases hlt : k < s.size
    · have ha := Al_at HA.out k hlt
      have hck := hcell.out k hlt
      go_wp2_with (go_at_call 22; refine (shouldEscape_any _ ha _ ht').mono ?_; rintro e w' ⟨rfl, rfl⟩)
      go_round
      case rel => exact ⟨k + 1, by omega, by go_num, rfl, rfl⟩
      case measure => simp [intOf]; omega
    · go_wp2
      go_ret
      exact ⟨rfl, ((Below.refl w.heap.size w).alloc (Nat.le_refl _) _).drew⟩

end Go.Proofs.YbulkdvvcDoor
