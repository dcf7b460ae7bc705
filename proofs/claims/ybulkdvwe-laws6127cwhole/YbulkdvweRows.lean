/-
  No cell of these rows narrows 'for every input' (looked for: loops, veiled, ifaces, maps, wideKeys, modest, calm, conditions, laid).
  DERIVED. THE GIVEN ROWS OF THIS SEAT. 2 by the template 'for every input the law returns true; each argument reads behind the call as it read before'; 0 by the template 'total and deterministic' (their statements: YbulkdvweTotals.lean).
  GIVEN WITH THE SEED: the statements are not yours to turn. If you find one false, say at which input.
  Laid BY PROGRAM, IN A SANDBOX (cutbox-rows.mjs): the forced cells as the released guide's own fill.sh prints them over the translation a92975cbe8a2375a… (all of the seat's roots in one cut). By AI agents, Wed Nov 11 2026. No macro, syntax, notation, axiom, sorry.
-/
import Derived.Test.YbulkdvweChecked
import GoSem.Claim
import GoSem.ClaimJoined
import GoSem.ClaimMapViews
import Derived.JoinedTies
import Derived.KernelRfl
namespace Go.Proofs.Ybulkdvwe
/- THE CELL 'sum', in the pinned program and in every row, IS THE sha256 OF THE DUMP (.gsa) THAT YbulkdvweProg.lean LOADS. Nothing in Lean hashes anything: it is a label: what it is worth is what the hold of that sum in a sandbox is worth. -/
noncomputable def Yba.pinned : Pinned := { name := "ybulkdvwe", sum := "a92975cbe8a2375a0c1476fa216924edc088929e20f3cf35c8de75b11e144f88", checked := Yba.checked }
namespace Rows
def none {H : Type} : Left H := { results := [], args := [] }

/-- 'hopspan.LawS6127BWhole': WHATEVER THE INPUT: true; the input reads as it did. -/
def lawS6127BWholeSpec : ChangeSpec := { name := "lawS6127BWhole", fn := fun _ => fun
  | [d1, d2] => { results := [.lit (.bool true)], args := [d1, d2] }
  | _ => none }
def lawS6127BWholeRow : OpenClaim := { program := "ybulkdvwe", sum := "a92975cbe8a2375a0c1476fa216924edc088929e20f3cf35c8de75b11e144f88", func := "example.com/hopspan/hopspan.LawS6127BWhole", spec := "lawS6127BWhole", apart := false }
def LawS6127BWholeSaid : Prop := lawS6127BWholeRow.holds Yba.pinned (OpenSpec.ofChange lawS6127BWholeSpec)

/-- ITS FALSE NEIGHBOUR: 'it returns false'. Refute it at one input. -/
def lawS6127BWholeWrong : ChangeSpec := { name := "lawS6127BWhole", fn := fun _ => fun
  | [d1, d2] => { results := [.lit (.bool false)], args := [d1, d2] }
  | _ => none }
def LawS6127BWholeWrongFalsely : Prop := lawS6127BWholeRow.holds Yba.pinned (OpenSpec.ofChange lawS6127BWholeWrong)

/-- 'routing.LawS6127CWhole': WHATEVER THE INPUT: true; the input reads as it did. -/
def lawS6127CWholeSpec : ChangeSpec := { name := "lawS6127CWhole", fn := fun _ => fun
  | [d1, d2, d3] => { results := [.lit (.bool true)], args := [d1, d2, d3] }
  | _ => none }
def lawS6127CWholeRow : OpenClaim := { program := "ybulkdvwe", sum := "a92975cbe8a2375a0c1476fa216924edc088929e20f3cf35c8de75b11e144f88", func := "example.com/hopspan/hopspan/routing.LawS6127CWhole", spec := "lawS6127CWhole", inPlace := ["(*internal/sync.Mutex).Lock", "internal/race.Disable", "sync/atomic.CompareAndSwapInt32", "internal/race.Enable", "internal/race.Acquire", "(*internal/sync.Mutex).lockSlow", "internal/sync.runtime_canSpin", "internal/sync.runtime_doSpin", "internal/sync.throw", "internal/sync.runtime_nanotime", "internal/sync.runtime_SemacquireMutex", "sync/atomic.AddInt32", "(*internal/sync.Mutex).Unlock", "internal/race.ReleaseMerge", "(*internal/sync.Mutex).unlockSlow", "internal/sync.fatal", "internal/sync.runtime_Semrelease"], apart := false }
def LawS6127CWholeSaid : Prop := lawS6127CWholeRow.holds Yba.pinned (OpenSpec.ofChange lawS6127CWholeSpec)

/-- ITS FALSE NEIGHBOUR: 'it returns false'. Refute it at one input. -/
def lawS6127CWholeWrong : ChangeSpec := { name := "lawS6127CWhole", fn := fun _ => fun
  | [d1, d2, d3] => { results := [.lit (.bool false)], args := [d1, d2, d3] }
  | _ => none }
def LawS6127CWholeWrongFalsely : Prop := lawS6127CWholeRow.holds Yba.pinned (OpenSpec.ofChange lawS6127CWholeWrong)

end Rows
end Go.Proofs.Ybulkdvwe
