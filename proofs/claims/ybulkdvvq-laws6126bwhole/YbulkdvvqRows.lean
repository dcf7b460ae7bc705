/-
  No cell of these rows narrows 'for every input' (looked for: loops, veiled, ifaces, maps, wideKeys, modest, calm, conditions, laid).
  DERIVED. THE GIVEN ROWS OF THIS SEAT. 3 by the template 'for every input the law returns true; each argument reads behind the call as it read before'; 0 by the template 'total and deterministic' (their statements: YbulkdvvqTotals.lean).
  GIVEN WITH THE SEED: the statements are not yours to turn. If you find one false, say at which input.
  Laid BY PROGRAM, IN A SANDBOX (cutbox-rows.mjs): the forced cells as the released guide's own fill.sh prints them over the translation 9e32858476cf1f1d… (all of the seat's roots in one cut). By AI agents, Wed Nov 11 2026. No macro, syntax, notation, axiom, sorry.
-/
import Derived.Test.YbulkdvvqChecked
import GoSem.Claim
import GoSem.ClaimJoined
import GoSem.ClaimMapViews
import Derived.JoinedTies
import Derived.KernelRfl
namespace Go.Proofs.Ybulkdvvq
/- THE CELL 'sum', in the pinned program and in every row, IS THE sha256 OF THE DUMP (.gsa) THAT YbulkdvvqProg.lean LOADS. Nothing in Lean hashes anything: it is a label: what it is worth is what the hold of that sum in a sandbox is worth. -/
noncomputable def Yba.pinned : Pinned := { name := "ybulkdvvq", sum := "9e32858476cf1f1d938a256f85f3535ef838968c8617d9e91cf7052534bc86a3", checked := Yba.checked }
namespace Rows
def none {H : Type} : Left H := { results := [], args := [] }

/-- 'bracewright.LawS6126BWhole': WHATEVER THE INPUT: true; the input reads as it did. -/
def lawS6126BWholeSpec : ChangeSpec := { name := "lawS6126BWhole", fn := fun _ => fun
  | [d1, d2, d3, d4, d5, d6, d7, d8, d9, d10] => { results := [.lit (.bool true)], args := [d1, d2, d3, d4, d5, d6, d7, d8, d9, d10] }
  | _ => none }
def lawS6126BWholeRow : OpenClaim := { program := "ybulkdvvq", sum := "9e32858476cf1f1d938a256f85f3535ef838968c8617d9e91cf7052534bc86a3", func := "example.com/bracewright/bracewright.LawS6126BWhole", spec := "lawS6126BWhole", unfollowed := true, recurses := true, apart := false }
def LawS6126BWholeSaid : Prop := lawS6126BWholeRow.holds Yba.pinned (OpenSpec.ofChange lawS6126BWholeSpec)

/-- ITS FALSE NEIGHBOUR: 'it returns false'. Refute it at one input. -/
def lawS6126BWholeWrong : ChangeSpec := { name := "lawS6126BWhole", fn := fun _ => fun
  | [d1, d2, d3, d4, d5, d6, d7, d8, d9, d10] => { results := [.lit (.bool false)], args := [d1, d2, d3, d4, d5, d6, d7, d8, d9, d10] }
  | _ => none }
def LawS6126BWholeWrongFalsely : Prop := lawS6126BWholeRow.holds Yba.pinned (OpenSpec.ofChange lawS6126BWholeWrong)

/-- 'bracewright.LawS6126CWhole': WHATEVER THE INPUT: true; the input reads as it did. -/
def lawS6126CWholeSpec : ChangeSpec := { name := "lawS6126CWhole", fn := fun _ => fun
  | [d1, d2, d3, d4, d5, d6, d7, d8] => { results := [.lit (.bool true)], args := [d1, d2, d3, d4, d5, d6, d7, d8] }
  | _ => none }
def lawS6126CWholeRow : OpenClaim := { program := "ybulkdvvq", sum := "9e32858476cf1f1d938a256f85f3535ef838968c8617d9e91cf7052534bc86a3", func := "example.com/bracewright/bracewright.LawS6126CWhole", spec := "lawS6126CWhole", apart := false }
def LawS6126CWholeSaid : Prop := lawS6126CWholeRow.holds Yba.pinned (OpenSpec.ofChange lawS6126CWholeSpec)

/-- ITS FALSE NEIGHBOUR: 'it returns false'. Refute it at one input. -/
def lawS6126CWholeWrong : ChangeSpec := { name := "lawS6126CWhole", fn := fun _ => fun
  | [d1, d2, d3, d4, d5, d6, d7, d8] => { results := [.lit (.bool false)], args := [d1, d2, d3, d4, d5, d6, d7, d8] }
  | _ => none }
def LawS6126CWholeWrongFalsely : Prop := lawS6126CWholeRow.holds Yba.pinned (OpenSpec.ofChange lawS6126CWholeWrong)

/-- 'bracewright.LawS6126CRoundTrip': WHATEVER THE INPUT: true; the input reads as it did. -/
def lawS6126CRoundTripSpec : ChangeSpec := { name := "lawS6126CRoundTrip", fn := fun _ => fun
  | [d1, d2, d3, d4, d5, d6, d7, d8] => { results := [.lit (.bool true)], args := [d1, d2, d3, d4, d5, d6, d7, d8] }
  | _ => none }
def lawS6126CRoundTripRow : OpenClaim := { program := "ybulkdvvq", sum := "9e32858476cf1f1d938a256f85f3535ef838968c8617d9e91cf7052534bc86a3", func := "example.com/bracewright/bracewright.LawS6126CRoundTrip", spec := "lawS6126CRoundTrip", apart := false }
def LawS6126CRoundTripSaid : Prop := lawS6126CRoundTripRow.holds Yba.pinned (OpenSpec.ofChange lawS6126CRoundTripSpec)

/-- ITS FALSE NEIGHBOUR: 'it returns false'. Refute it at one input. -/
def lawS6126CRoundTripWrong : ChangeSpec := { name := "lawS6126CRoundTrip", fn := fun _ => fun
  | [d1, d2, d3, d4, d5, d6, d7, d8] => { results := [.lit (.bool false)], args := [d1, d2, d3, d4, d5, d6, d7, d8] }
  | _ => none }
def LawS6126CRoundTripWrongFalsely : Prop := lawS6126CRoundTripRow.holds Yba.pinned (OpenSpec.ofChange lawS6126CRoundTripWrong)

end Rows
end Go.Proofs.Ybulkdvvq
