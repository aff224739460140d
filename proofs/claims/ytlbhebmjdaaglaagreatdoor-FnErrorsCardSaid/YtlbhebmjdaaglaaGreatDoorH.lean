/-
  wholes: arguments as whole numbers.
-/
import Derived.Test.YtlbhebmjdaaglaaGreatDoorW
import Derived.Test.YtlbhebmjdaaglaaGreatDoorG
namespace Go.Proofs.YtlbhebmjdaaglaaGreatDoor
set_option linter.unusedSimpArgs false
set_option linter.unusedVariables false
open Go Go.RowKit
set_option maxRecDepth 100000

def icells (n : Int) : List Value := [.int .i64 n]
theorem icells_len (n : Int) : (icells n).length = 1 := rfl
theorem icells_one (n : Int) : ∀ u ∈ icells n, u.oneCell' = true := by
  intro u hu
  have e : u = .int .i64 n := by simpa [icells] using hu
  subst e; rfl
theorem infoInt : (Tryz.prog.info? 3).map (fun i => (i.zero, i.size, i.bytes)) = some (some (.int .i64 0), 1, 8) := by kernel_rfl
end Go.Proofs.YtlbhebmjdaaglaaGreatDoor
