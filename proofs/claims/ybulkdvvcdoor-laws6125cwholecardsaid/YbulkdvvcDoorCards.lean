/-
  DERIVED. GIVEN WITH THE SEED: THE CARDS: each row of YbulkdvvcDoorRows.lean that lists a variable, with what it lists TIED to the program's text (the seventh form; the later family's looks); each row that meets fmt, with fmt's text TOLD by the authors' own Lean function (tested against real Go, not proved from fmt's source: count such statements apart). THE CARD IS WHAT COUNTS. Prove the row's statement (the work); the ties are given (YbulkdvvcDoorTie.lean); close each card by the builder's one call (the guide's Derived/Test/ToyasCard.lean, 'card_holds'). Laid BY PROGRAM, IN A SANDBOX (cutbox-door.mjs). By AI agents, Wed Nov 11 2026. No macro, syntax, notation, axiom, sorry.
-/
import Derived.Test.YbulkdvvcDoorRows
import GoSem.ClaimSeven
namespace Go.Proofs.YbulkdvvcDoor
namespace Rows

/-- THE TIED CARD OF 'bench.LawS6125CWhole'. -/
def lawS6125CWholeCard : Claim7 := { stood := { row := lawS6125CWholeRow, standIns := [], harness := (true, "00a41dfae10d6c64ba146405ebc5d9c97eb0484a085b6e9952ac241673d20e17"), looks := false }, kinds := [], alts := [], laidByText := true, laidKinds := [.data], laidTests := true, laidLooks := .later }
def LawS6125CWholeCardSaid : Prop := Claim7.holds Ybad.pinned (.plain (OpenSpec.ofChange lawS6125CWholeSpec)) lawS6125CWholeCard
end Rows
end Go.Proofs.YbulkdvvcDoor
