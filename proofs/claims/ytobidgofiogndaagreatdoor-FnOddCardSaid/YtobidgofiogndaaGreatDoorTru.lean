/-
  math.Trunc on a word.
-/
import Derived.Test.YtobidgofiogndaaGreatDoorN
import Derived.Test.YtobidgofiogndaaGreatDoorTp
namespace Go.Proofs.YtobidgofiogndaaGreatDoor
set_option linter.unusedSimpArgs false
set_option linter.unusedVariables false
open Go Go.RowKit
set_option maxRecDepth 100000

theorem arch_run (x : Nat) (w : World) : (callFunc 203 #[.float .f64 x]).run Tryz.prog w = ((Go.Extern.MathFloor.toIntegral "math.archTrunc" .zero #[.float .f64 x]) >>= fun v => pure (Next.value v)).run Tryz.prog w := by kernel_rfl

theorem arch_ok {x : Nat} {s : Bool} {m : Nat} {i : Int} (h : Ieee.double.read x = .number s m i) (w : World) :
    (callFunc 203 #[.float .f64 x]).run Tryz.prog w = .ok (.value (.float .f64 (Ieee.double.nearest s (Ieee.Toward.zero.cut s (m <<< i.toNat) (-i).toNat) 0))) w := by
  rw [arch_run]
  have h' : FloatKind.f64.decode x = .number s m i := h
  have e : Go.Extern.MathFloor.toIntegral "math.archTrunc" .zero #[.float .f64 x] = pure (.float .f64 (FloatKind.f64.encode ((Ieee.Datum.number s m i).integral .zero))) := by
    delta Go.Extern.MathFloor.toIntegral
    conv => lhs; whnf
    rw [h']
  rw [e]
  rfl

theorem trunc_cut {s : Bool} {m g : Nat} (h1 : 2 ^ 52 ≤ m) (h2 : m < 2 ^ 53) : Ieee.Toward.zero.cut s m g = if g ≤ 52 then m / 2 ^ g else 0 := by
  have hl : m.log2 = 52 := by
    have a := (Nat.le_log2 (n := m) (k := 52) (by omega)).2 h1
    have b := (Nat.log2_lt (n := m) (k := 53) (by omega)).2 h2
    omega
  unfold Ieee.Toward.cut
  rw [hl]
  simp only [Bool.toNat_false, Nat.add_zero]
  rw [Fl.shl_eq, Nat.one_mul]
  by_cases hg : g ≤ 52
  · rw [if_pos hg, show min g (52 + 2) = g by omega]
  · rw [if_neg hg]
    apply Nat.div_eq_of_lt
    have : 2 ^ 53 ≤ 2 ^ min g (52 + 2) := Nat.pow_le_pow_right (by decide) (by omega)
    omega

set_option maxHeartbeats 800000 in
theorem Trunc_of (x y : Nat) (w : World) (h : ∀ w', (callFunc 203 #[.float .f64 x]).run Tryz.prog w' = .ok (.value (.float .f64 y)) w') : Calls Tryz.prog 115 #[.float .f64 x] w (Gives w (.float .f64 y)) := by
  go_enter Tryz.func115, Tryz.ntmps115
  go_wp2
  go_ret
  exact ⟨rfl, (by repeat (first | with_reducible exact Below.refl _ _ | with_reducible assumption | ((with_reducible refine Below.setCell ?_ ?_ _); rotate_left; (simp; try omega)) | (with_reducible refine Ext.tr ?_ (by with_reducible assumption)) | (with_reducible refine Ext.al ?_ _) | (with_reducible refine below_drewN ?_ _) | (with_reducible refine Below.drew ?_)))⟩

/-- The whole part of a number that is not nought. -/
theorem Trunc_bits {s : Bool} {m : Nat} {e : Int} (w : World) (h1 : 2 ^ 52 ≤ m) (h2 : m < 2 ^ 53) (h3 : -1074 ≤ e) (h4 : e < 0) :
    Calls Tryz.prog 115 #[.float .f64 (Fl.bits s m e)] w (Gives w (.float .f64 (Ieee.double.nearest s (if -52 ≤ e then m / 2 ^ (-e).toNat else 0) 0))) := by
  refine Trunc_of _ _ w fun w' => ?_
  rw [arch_ok (Fl.read_bits h1 h2 h3 (by omega)) w', show e.toNat = 0 by omega, Fl.shl_eq, Nat.pow_zero, Nat.mul_one, trunc_cut h1 h2]
  by_cases he : -52 ≤ e
  · rw [if_pos he, if_pos (by omega)]
  · rw [if_neg he, if_neg (by omega)]

theorem nearest_nought (s : Bool) (p : Int) : Ieee.double.nearest s 0 p = Ieee.double.word s 0 := by
  unfold Ieee.Format.nearest; rw [if_pos rfl]

/-- The whole part of nought. -/
theorem Trunc_nought (s : Bool) (w : World) : Calls Tryz.prog 115 #[.float .f64 (Ieee.double.word s 0)] w (Gives w (.float .f64 (Ieee.double.word s 0))) := by
  refine Trunc_of _ _ w fun w' => ?_
  have hr : Ieee.double.read (Ieee.double.word s 0) = .number s 0 (-1074) := by cases s <;> decide
  rw [arch_ok hr w']
  have hc : Ieee.Toward.zero.cut s (0 <<< (-1074 : Int).toNat) (- (-1074 : Int)).toNat = 0 := by unfold Ieee.Toward.cut; simp
  rw [hc, nearest_nought]
end Go.Proofs.YtobidgofiogndaaGreatDoor
