/-
  letters, Same, Digits, Plain: what numeric asks of a text.
-/
import Derived.Test.YtlbhebmjdaaglaaGreatDoorRd2
import Derived.Test.YtlbhebmjdaaglaaGreatDoorFr
namespace Go.Proofs.YtlbhebmjdaaglaaGreatDoor
set_option linter.unusedSimpArgs false
set_option linter.unusedVariables false
open Go Go.RowKit
set_option maxRecDepth 100000

set_option maxHeartbeats 800000 in
theorem same_refl (x : Sc) (w : World) : Calls Tryz.prog 13 #[x.val, x.val] w (Gives w (.bool true)) := by
  obtain ⟨k, n, d, t⟩ := x
  go_enter Tryz.func13, Tryz.ntmps13
  go_wp2
  go_loop [5] (fun i => i = .int .i64 0) (fun i => 1 - (intOf i).toNat)
  case atStart => rfl
  case round =>
    subst hrel
    go_wp2
    go_ret
    exact ⟨rfl, (by repeat (first | with_reducible exact Below.refl _ _ | with_reducible assumption | ((with_reducible refine Below.setCell ?_ ?_ _); rotate_left; (simp; try omega)) | (with_reducible refine Ext.tr ?_ (by with_reducible assumption)) | (with_reducible refine Ext.al ?_ _) | (with_reducible refine below_drewN ?_ _) | (with_reducible refine Below.drew ?_)))⟩

set_option maxHeartbeats 800000 in
theorem same_kind (x y : Sc) (h : x.k ≠ y.k) (w : World) : Calls Tryz.prog 13 #[x.val, y.val] w (Gives w (.bool false)) := by
  obtain ⟨k, n, d, t⟩ := x
  obtain ⟨k', n', d', t'⟩ := y
  simp only at h
  have h1 : (k == k') = false := beq_eq_false_iff_ne.2 h
  have h2 : (k != k') = true := by simpa using h
  go_enter Tryz.func13, Tryz.ntmps13
  go_wp2
  go_ret
  exact ⟨rfl, (by repeat (first | with_reducible exact Below.refl _ _ | with_reducible assumption | ((with_reducible refine Below.setCell ?_ ?_ _); rotate_left; (simp; try omega)) | (with_reducible refine Ext.tr ?_ (by with_reducible assumption)) | (with_reducible refine Ext.al ?_ _) | (with_reducible refine below_drewN ?_ _) | (with_reducible refine Below.drew ?_)))⟩

theorem otherSc_ok (s : ByteArray) : NumD (otherSc s) ∨ otherSc s = ⟨4, 0, 0, valueT⟩ := by
  unfold otherSc
  by_cases h : wordT s = true
  · rw [if_pos h]; exact Or.inr rfl
  · rw [if_neg h]; exact Or.inl (Or.inl rfl)
end Go.Proofs.YtlbhebmjdaaglaaGreatDoor
