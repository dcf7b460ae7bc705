/-
  No cell of these rows narrows 'for every input' (looked for: loops, veiled, ifaces, maps, wideKeys, modest, calm, conditions, laid).
  DERIVED. THE GIVEN ROWS OF THIS SEAT. 1 by the template 'for every input the law returns true; each argument reads behind the call as it read before'; 0 by the template 'total and deterministic' (their statements: YbulkdvuoTotals.lean).
  GIVEN WITH THE SEED: the statements are not yours to turn. If you find one false, say at which input.
  Laid BY PROGRAM, IN A SANDBOX (cutbox-rows.mjs): the forced cells as the released guide's own fill.sh prints them over the translation 773d40ae1d7c1f9d… (all of the seat's roots in one cut). By AI agents, Wed Nov 11 2026. No macro, syntax, notation, axiom, sorry.
-/
import Derived.Test.YbulkdvuoChecked
import GoSem.Claim
import GoSem.ClaimJoined
import GoSem.ClaimMapViews
import Derived.JoinedTies
import Derived.KernelRfl
namespace Go.Proofs.Ybulkdvuo
/- THE CELL 'sum', in the pinned program and in every row, IS THE sha256 OF THE DUMP (.gsa) THAT YbulkdvuoProg.lean LOADS. Nothing in Lean hashes anything: it is a label: what it is worth is what the hold of that sum in a sandbox is worth. -/
noncomputable def Yba.pinned : Pinned := { name := "ybulkdvuo", sum := "773d40ae1d7c1f9dad053d96f4691e516b5474d434a43317b0e2e9c4af49187e", checked := Yba.checked }
namespace Rows
def none {H : Type} : Left H := { results := [], args := [] }

/-- 'lockstep.LawS6124CWhole': WHATEVER THE INPUT: true; the input reads as it did. -/
def lawS6124CWholeSpec : ChangeSpec := { name := "lawS6124CWhole", fn := fun _ => fun
  | [d1, d2, d3, d4, d5, d6, d7, d8, d9, d10, d11, d12] => { results := [.lit (.bool true)], args := [d1, d2, d3, d4, d5, d6, d7, d8, d9, d10, d11, d12] }
  | _ => none }
def lawS6124CWholeRow : OpenClaim := { program := "ybulkdvuo", sum := "773d40ae1d7c1f9dad053d96f4691e516b5474d434a43317b0e2e9c4af49187e", func := "example.com/lockstep/lockstep.LawS6124CWhole", spec := "lawS6124CWhole", unfollowed := true, recurses := true, plainKeys := false, apart := false }
def LawS6124CWholeSaid : Prop := lawS6124CWholeRow.holds Yba.pinned (OpenSpec.ofChange lawS6124CWholeSpec)

/-- ITS FALSE NEIGHBOUR: 'it returns false'. Refute it at one input. -/
def lawS6124CWholeWrong : ChangeSpec := { name := "lawS6124CWhole", fn := fun _ => fun
  | [d1, d2, d3, d4, d5, d6, d7, d8, d9, d10, d11, d12] => { results := [.lit (.bool false)], args := [d1, d2, d3, d4, d5, d6, d7, d8, d9, d10, d11, d12] }
  | _ => none }
def LawS6124CWholeWrongFalsely : Prop := lawS6124CWholeRow.holds Yba.pinned (OpenSpec.ofChange lawS6124CWholeWrong)

end Rows
end Go.Proofs.Ybulkdvuo
