import Derived.Test.Qxb6003726aBase
import Derived.Deep.Cut
namespace Go.Proofs.Qxb6003726a
open Go.RowKit

/-- The number of the region that a code begins with. -/
def headId : Code → Option Nat
  | .region id _ _ => some id
  | .seq a _ => headId a
  | .block _ c => headId c
  | .loop c => headId c
  | _ => none
/-- What is left of a code from the statement on that begins with region k. -/
def tailAt (k : Nat) : Code → Option Code
  | .seq a b => if headId a = some k then some (.seq a b) else tailAt k b
  | _ => none

/-- The end of the law: it returned true and nothing old has turned. -/
def Yes (w : World) (e : Ending) (w' : World) : Prop := e = .returned (.bool true) ∧ Below w.heap.size w w'

end Go.Proofs.Qxb6003726a
