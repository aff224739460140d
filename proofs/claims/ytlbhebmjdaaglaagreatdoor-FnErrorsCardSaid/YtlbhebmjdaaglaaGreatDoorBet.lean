/-
  between, wholes, and what the dispatch says of names that are not its own.
-/
import Derived.Test.YtlbhebmjdaaglaaGreatDoorS2
namespace Go.Proofs.YtlbhebmjdaaglaaGreatDoor
set_option linter.unusedSimpArgs false
set_option linter.unusedVariables false
open Go Go.RowKit
set_option maxRecDepth 100000
end Go.Proofs.YtlbhebmjdaaglaaGreatDoor
