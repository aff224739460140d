/-
  A text so many times.
-/
import Derived.Test.YtfgfelgdmfpieaaGreatDoorA
namespace Go.Proofs.YtfgfelgdmfpieaaGreatDoor
set_option linter.unusedSimpArgs false
set_option linter.unusedVariables false
open Go Go.RowKit

/-- A text so many times. -/
def repL (s : ByteArray) : Nat → List UInt8
  | 0 => []
  | k + 1 => repL s k ++ s.data.toList
def rep (s : ByteArray) (k : Nat) : ByteArray := ⟨(repL s k).toArray⟩

theorem rep_succ (s : ByteArray) (k : Nat) : rep s (k + 1) = rep s k ++ s := by
  apply ByteArray.ext
  apply Array.ext'
  rw [ByteArray.data_append, Array.toList_append]
  rfl
theorem repL_len (s : ByteArray) (k : Nat) : (repL s k).length = k * s.size := by
  induction k with
  | zero => simp [repL]
  | succ k ih => rw [repL, List.length_append, ih, Nat.succ_mul]; simp
theorem rep_size (s : ByteArray) (k : Nat) : (rep s k).size = k * s.size := by
  rw [← repL_len]; simp [rep, ByteArray.size]
end Go.Proofs.YtfgfelgdmfpieaaGreatDoor
