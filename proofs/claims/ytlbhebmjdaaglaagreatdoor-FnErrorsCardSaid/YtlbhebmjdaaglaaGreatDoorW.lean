/-
  strict, wholes, two arguments.
-/
import Derived.Test.YtlbhebmjdaaglaaGreatDoorDisp
import Derived.Test.YtlbhebmjdaaglaaGreatDoorK
namespace Go.Proofs.YtlbhebmjdaaglaaGreatDoor
set_option linter.unusedSimpArgs false
set_option linter.unusedVariables false
open Go Go.RowKit
set_option maxRecDepth 100000

theorem lie_two (w : World) (x y : Sc) : Lie (w.alloc (.cells #[.int .i64 x.k, .int .i64 x.n, .int .i64 x.d, .string x.t, .slice none 0 0, .int .i64 y.k, .int .i64 y.n, .int .i64 y.d, .string y.t, .slice none 0 0] 24)) w.heap.size 0 [x, y] := by
  intro i z hz
  cases i with
  | zero =>
    have e : x = z := by simpa using hz
    subst e
    exact ⟨World.cell?_alloc_at _ _ _ _ rfl, World.cell?_alloc_at _ _ _ _ rfl, World.cell?_alloc_at _ _ _ _ rfl, World.cell?_alloc_at _ _ _ _ rfl, World.cell?_alloc_at _ _ _ _ rfl⟩
  | succ i =>
    cases i with
    | zero =>
      have e : y = z := by simpa using hz
      subst e
      exact ⟨World.cell?_alloc_at _ _ _ _ rfl, World.cell?_alloc_at _ _ _ _ rfl, World.cell?_alloc_at _ _ _ _ rfl, World.cell?_alloc_at _ _ _ _ rfl, World.cell?_alloc_at _ _ _ _ rfl⟩
    | succ i => simp at hz
end Go.Proofs.YtlbhebmjdaaglaaGreatDoor
