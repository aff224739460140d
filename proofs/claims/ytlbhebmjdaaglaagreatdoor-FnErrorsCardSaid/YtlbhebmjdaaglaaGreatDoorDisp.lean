/-
  The reference's dispatch, for any name: what Fits and CallOver come to, from what their parts say.
-/
import Derived.Test.YtlbhebmjdaaglaaGreatDoorBet
namespace Go.Proofs.YtlbhebmjdaaglaaGreatDoor
set_option linter.unusedSimpArgs false
set_option linter.unusedVariables false
open Go Go.RowKit
set_option maxRecDepth 100000
end Go.Proofs.YtlbhebmjdaaglaaGreatDoor
