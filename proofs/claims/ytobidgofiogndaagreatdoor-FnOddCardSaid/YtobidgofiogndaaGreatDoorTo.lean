/-
  Halves: the words that ODD comes across.
-/
import Derived.Test.YtobidgofiogndaaGreatDoorTp
namespace Go.Proofs.YtobidgofiogndaaGreatDoor.Fl
set_option linter.unusedSimpArgs false
set_option linter.unusedVariables false
open Ieee

theorem word_false (r : Nat) : double.word false r = r := by unfold Format.word; simp

theorem fx_word (n p : Int) : fx p n = double.word (decide (n < 0)) (double.nearest false n.natAbs p) := by
  unfold fx Format.nearest
  by_cases h : n.natAbs = 0
  · rw [if_pos h, if_pos h, word_false]
  · rw [if_neg h, if_neg h]
    simp only [word_false]
    unfold Toward.cut
    rfl

theorem nearest_lt {m : Nat} {p : Int} (h : m < 2 ^ 53) (hp : -1000 ≤ p) (hp2 : p ≤ 900) : double.nearest false m p < 2 ^ 63 := by
  by_cases h0 : m = 0
  · subst h0; simp [Format.nearest, Format.word]
  · have hl : m.log2 < 53 := (Nat.log2_lt (by omega)).2 h
    rw [nearest_norm (by omega) h hp hp2]
    show bits false _ _ < _
    have := norm_bounds (show 0 < m by omega) h
    exact rung_lt this.2 (by omega)

/-- A half of a number of at least two: its significand, with its whole part ahead of the point. -/
theorem half_bits {k : Int} (h2 : 2 ≤ k.natAbs) (h3 : k.natAbs < 2 ^ 50) :
    ∃ (m : Nat) (e : Int), fx (-1) k = bits (decide (k < 0)) m e ∧ 2 ^ 52 ≤ m ∧ m < 2 ^ 53 ∧ -52 ≤ e ∧ e < 0 ∧ m / 2 ^ (-e).toNat = k.natAbs / 2 := by
  have hl : k.natAbs.log2 < 50 := (Nat.log2_lt (by omega)).2 h3
  have hl1 : 1 ≤ k.natAbs.log2 := (Nat.le_log2 (by omega)).2 (by omega)
  have hb := norm_bounds (show 0 < k.natAbs by omega) (show k.natAbs < 2 ^ 53 by omega)
  refine ⟨_, _, nearest_norm (by omega) (by omega) (by omega) (by omega), hb.1, hb.2, by omega, by omega, ?_⟩
  rw [show (-((-1 : Int) - ((52 - k.natAbs.log2 : Nat) : Int))).toNat = (52 - k.natAbs.log2) + 1 by omega, Nat.pow_succ, Nat.mul_comm k.natAbs, Nat.mul_div_mul_left _ _ (Nat.two_pow_pos _)]

theorem tdiv_neg_iff {k : Int} (h2 : 2 ≤ k.natAbs) : decide (k.tdiv 2 < 0) = decide (k < 0) := by
  have h := Int.natAbs_tdiv k 2
  have h' : (k.tdiv 2).natAbs = k.natAbs / 2 := h
  have hm := Int.mul_tdiv_add_tmod k 2
  have h3 := Int.tmod_lt_of_pos k (show (0 : Int) < 2 by decide)
  have h4 := Int.lt_tmod_of_pos k (show (0 : Int) < 2 by decide)
  by_cases hk : k < 0
  · rw [decide_eq_true hk, decide_eq_true]; omega
  · rw [decide_eq_false hk, decide_eq_false]; omega

/-- The halved number's whole part. -/
theorem half_whole {k : Int} (h2 : 2 ≤ k.natAbs) {m : Nat} {e : Int} (hm : m / 2 ^ (-e).toNat = k.natAbs / 2) :
    double.nearest (decide (k < 0)) (m / 2 ^ (-e).toNat) 0 = fx 0 (k.tdiv 2) := by
  unfold fx
  rw [hm, tdiv_neg_iff h2, Int.natAbs_tdiv]
  rfl

/-- What is left of a half behind its whole part. -/
theorem half_rest {k : Int} (h3 : k.natAbs < 2 ^ 50) (ht : k.tdiv 2 ≠ 0) : double.sub (fx (-1) k) (fx 0 (k.tdiv 2)) = some (fx (-1) (k.tmod 2)) := by
  have hm := Int.mul_tdiv_add_tmod k 2
  have h5 := Int.tmod_lt_of_pos k (show (0 : Int) < 2 by decide)
  have h4 := Int.lt_tmod_of_pos k (show (0 : Int) < 2 by decide)
  have hs := fx_shift (n := k.tdiv 2) (p := -1) 1 (by omega) (by omega) (by omega) (by omega)
  rw [show (-1 : Int) + ((1 : Nat) : Int) = 0 by omega] at hs
  rw [← hs, sub_fx (by omega) (by omega) (by omega) (by omega) (by omega) (by omega) (by omega) (by omega) (by omega)]
  congr 2; omega

theorem half_word (neg : Bool) {R : Int} (h1 : -1 ≤ R) (h2 : R ≤ 1) : (double.order (double.word neg (double.nearest false R.natAbs (-1))) 0 == some Ordering.eq) = decide (R = 0) := by
  rcases (show R = -1 ∨ R = 0 ∨ R = 1 by omega) with rfl | rfl | rfl <;> cases neg <;> decide +kernel

theorem double_fx {T : Int} (h1 : -2 ^ 50 < T) (h2 : T < 2 ^ 50) : double.mul (fx 0 T) (fx 0 2) = some (fx 0 (2 * T)) := by
  by_cases h0 : T = 0
  · subst h0; decide +kernel
  · have := mul_fx (a := T) (b := 2) (p := 0) (q := 0) (by omega) (by omega) (by omega) (by omega) (by omega) (by omega) h0 (by omega) (by omega) (by omega) (by omega) (by omega)
    rw [this, Int.mul_comm]; rfl
end Go.Proofs.YtobidgofiogndaaGreatDoor.Fl
