/-
  doubtful, First, numbers, wholes.
-/
import Derived.Test.YtlbhebmjdaaglaaGreatDoorD
namespace Go.Proofs.YtlbhebmjdaaglaaGreatDoor
set_option linter.unusedSimpArgs false
set_option linter.unusedVariables false
open Go Go.RowKit
set_option maxRecDepth 100000

theorem any_take_succ {α : Type} {xs : List α} {k : Nat} {x : α} (h : Hid (xs[k]? = some x)) (p : α → Bool) : (xs.take (k + 1)).any p = ((xs.take k).any p || p x) := by
  rw [take_succ_at h, List.any_append]; simp

/-- The zero value. -/
abbrev zeroVal : Value := .agg #[.int .i64 0, .int .i64 0, .int .i64 0, .string ⟨#[]⟩, .slice none 0 0]
end Go.Proofs.YtlbhebmjdaaglaaGreatDoor
