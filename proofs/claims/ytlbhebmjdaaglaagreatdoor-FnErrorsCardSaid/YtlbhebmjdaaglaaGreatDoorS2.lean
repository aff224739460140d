/-
  SIGN: the reference's dispatch.
-/
import Derived.Test.YtlbhebmjdaaglaaGreatDoorSign
namespace Go.Proofs.YtlbhebmjdaaglaaGreatDoor
set_option linter.unusedSimpArgs false
set_option linter.unusedVariables false
open Go Go.RowKit
set_option maxRecDepth 100000

/-- A value that numeric knows at once: a number (true), or one that is none (false). -/
def numericOf (x : Sc) : Bool := x.k == 1
end Go.Proofs.YtlbhebmjdaaglaaGreatDoor
