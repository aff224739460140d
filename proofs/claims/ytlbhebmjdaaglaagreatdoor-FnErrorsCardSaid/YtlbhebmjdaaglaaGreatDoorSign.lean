/-
  SIGN: the reference's side.
-/
import Derived.Test.YtlbhebmjdaaglaaGreatDoorE
namespace Go.Proofs.YtlbhebmjdaaglaaGreatDoor
set_option linter.unusedSimpArgs false
set_option linter.unusedVariables false
open Go Go.RowKit
set_option maxRecDepth 100000

def sgn (n : Int) : Int := if n < 0 then -1 else if n = 0 then 0 else 1
end Go.Proofs.YtlbhebmjdaaglaaGreatDoor
