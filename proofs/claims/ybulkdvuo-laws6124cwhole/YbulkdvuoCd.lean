import Derived.Test.YbulkdvuoJoin
namespace Go.Proofs.Ybulkdvuo
open Go.RowKit
/-- the code behind k steps -/
def cdAt : Nat → Code → Code
  | 0, c => c
  | n + 1, .seq _ b => cdAt n b
  | _ + 1, c => c
/-- the body's code behind k steps -/
def cdOf (k : Nat) : Option Code → Code
  | some c => cdAt k c
  | none => .skip
end Go.Proofs.Ybulkdvuo
