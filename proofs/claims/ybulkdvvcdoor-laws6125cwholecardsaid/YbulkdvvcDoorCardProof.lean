import Derived.Test.YbulkdvvcDoorProofs
import Derived.Test.YbulkdvvcDoorTie
import Derived.Test.YbulkdvvcDoorCards
import Derived.SevenTiedAt
namespace Go.Proofs.YbulkdvvcDoor
open Go

/-- the tied card -/
theorem card_holds : Rows.LawS6125CWholeCardSaid :=
  Claim7.holds_tied_plain_at .later [] [.data] true (true, "00a41dfae10d6c64ba146405ebc5d9c97eb0484a085b6e9952ac241673d20e17") false
    row_holds (fun _ h => by cases h) (by kernel_rfl) (fun _ h => by cases h) lawS6125CWhole_row_tie rfl ⟨rfl, rfl⟩ (by kernel_rfl) rfl
    (fun f fn hf hfn => by
      obtain rfl : f = 3 := Option.some.inj ((show Ybad.prog.funcNamed Rows.lawS6125CWholeRow.func = some 3 by kernel_rfl).symm.trans hf) |>.symm
      obtain rfl : fn = Ybad.f3 := (Option.some.inj (Ybad.func3.symm.trans hfn)).symm
      exact ⟨by kernel_rfl, fun j t ht => by
        rw [Ybad.params3] at ht
        have hm : t ∈ [5, 9, 9, 9, 9, 9] := by simpa using Array.mem_of_getElem? ht
        have hall : ([5, 9, 9, 9, 9, 9].all fun u => !Ybad.prog.wantsStandIn u) = true := by kernel_rfl
        exact (show Ybad.prog.wantsStandIn t = false by simpa using List.all_eq_true.1 hall t hm)⟩)
    (by kernel_rfl)
end Go.Proofs.YbulkdvvcDoor
