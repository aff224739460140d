/-
  same, Call, agrees.
-/
import Derived.Test.YtlbhebmjdaaglaaGreatDoorM
import Derived.Deep.RegionHeld3
namespace Go.Proofs.YtlbhebmjdaaglaaGreatDoor
set_option linter.unusedSimpArgs false
set_option linter.unusedVariables false
open Go Go.RowKit
set_option maxRecDepth 100000
end Go.Proofs.YtlbhebmjdaaglaaGreatDoor
