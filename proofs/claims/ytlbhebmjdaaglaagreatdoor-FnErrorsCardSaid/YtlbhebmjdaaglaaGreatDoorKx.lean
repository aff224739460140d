/-
  agrees, where what the package says hangs on the world.
-/
import Derived.Test.YtlbhebmjdaaglaaGreatDoorK
namespace Go.Proofs.YtlbhebmjdaaglaaGreatDoor
set_option linter.unusedSimpArgs false
set_option linter.unusedVariables false
open Go Go.RowKit
set_option maxRecDepth 100000
end Go.Proofs.YtlbhebmjdaaglaaGreatDoor
