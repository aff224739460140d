/-
  A list element's value as formulaArg.
-/
import Derived.Test.YtlbhebmjdaaglaaGreatDoorM
namespace Go.Proofs.YtlbhebmjdaaglaaGreatDoor
set_option linter.unusedSimpArgs false
set_option linter.unusedVariables false
open Go Go.RowKit
set_option maxRecDepth 100000

@[go_sem] theorem assert_fa (v : Value) (w : World) : (Instr.typeAssert (.iface 62 v) 20 62 false).run Tryz.prog w = .ok v w := by kernel_rfl
end Go.Proofs.YtlbhebmjdaaglaaGreatDoor
