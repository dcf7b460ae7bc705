import Derived.Test.YbulkdvweTime
import Derived.Test.YbulkdvweLocks
import Derived.Conc.MuLone
namespace Go.Proofs.Ybulkdvwe
open Go.RowKit
set_option linter.unusedSimpArgs false

theorem rangeAt_set {w : World} {b o : Nat} {cs : List Value} {a : Addr} {v : Value} (h : w.rangeAt b o cs) (hne : b ≠ a.block) : (w.setCell a v).rangeAt b o cs := fun j u hu => by
  have hne' : a ≠ ⟨b, o + j, none⟩ := fun e => hne (by rw [e])
  rw [World.cell?_setCell_other (h := hne')]
  exact h j u hu
/-- netip.AddrPortFrom of the zero address -/
theorem addrPort_any (p : Int) (w : World) :
    Calls Yba.prog 16 #[.agg #[.int .u64 0, .int .u64 0, .pointer none], .int .u16 p] w fun e w' => e = .returned (.agg #[.int .u64 0, .int .u64 0, .pointer none, .int .u16 p]) ∧ Below w.heap.size w w' := by
  go_enter Yba.func16, Yba.ntmps16
  go_wp2
  exact bodyPost_ret (v := .agg #[.int .u64 0, .int .u64 0, .pointer none, .int .u16 p]) (by simp [results, Yba.results16, go_sem]) rfl ⟨rfl, ((Below.refl _ _).alloc (Nat.le_refl _) _).alloc (by simp) _⟩

end Go.Proofs.Ybulkdvwe
