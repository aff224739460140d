/-
  Plain facts on what math.Trunc does with the bits of a word, and on the whole part of a quotient.
-/
import Derived.Test.YtobidgofiogndaaGreatDoorFl
import Derived.Laws.BitsAllLaws
namespace Go.Proofs.YtobidgofiogndaaGreatDoor.Fl
set_option linter.unusedSimpArgs false
set_option linter.unusedVariables false
open Ieee

theorem word_lt {neg : Bool} {r : Nat} (h : r < 2 ^ 63) : double.word neg r < 18446744073709551616 := by
  unfold Format.word; rw [signWeight_eq]; cases neg <;> simp <;> omega

theorem rung_lt {m : Nat} {e : Int} (h2 : m < 2 ^ 53) (h4 : e ≤ 971) : (e + 1074).toNat * 2 ^ 52 + m < 2 ^ 63 := by
  obtain ⟨k, hk⟩ : ∃ k : Nat, (e + 1074).toNat = k := ⟨_, rfl⟩
  rw [hk]; omega

theorem bits_lt {neg : Bool} {m : Nat} {e : Int} (h2 : m < 2 ^ 53) (h4 : e ≤ 971) : bits neg m e < 18446744073709551616 := word_lt (rung_lt h2 h4)

theorem land_low (x g : Nat) (hx : x < 18446744073709551616) (hg : g ≤ 63) : x &&& (18446744073709551615 - (2 ^ g - 1)) = x / 2 ^ g * 2 ^ g := by
  have hp := Nat.two_pow_pos g
  have hlt : 2 ^ g - 1 < 2 ^ 64 := by
    have : 2 ^ g ≤ 2 ^ 63 := Nat.pow_le_pow_right (by decide) hg
    omega
  rw [show 18446744073709551615 - (2 ^ g - 1) = 2 ^ 64 - (2 ^ g - 1 + 1) by omega]
  apply Nat.eq_of_testBit_eq
  intro i
  rw [Nat.testBit_and, Nat.testBit_two_pow_sub_succ hlt, Nat.testBit_two_pow_sub_one, ← Nat.shiftRight_eq_div_pow, ← Nat.shiftLeft_eq, Nat.testBit_shiftLeft, Nat.testBit_shiftRight]
  by_cases hi : i < g
  · have : ¬ i ≥ g := by omega
    simp [hi, this]
  · have h2 : i ≥ g := by omega
    rw [show g + (i - g) = i by omega]
    by_cases h64 : i < 64
    · simp [hi, h2, h64]
    · have : x.testBit i = false := Nat.testBit_lt_two_pow (Nat.lt_of_lt_of_le hx (by rw [show (18446744073709551616 : Nat) = 2 ^ 64 from rfl]; exact Nat.pow_le_pow_right (by decide) (by omega)))
      simp [this]

theorem land_sign {neg : Bool} {r : Nat} (h : r < 2 ^ 63) : double.word neg r &&& 9223372036854775808 = double.word neg 0 := by
  rw [show 9223372036854775808 = 2 ^ 63 from rfl, nat_bit]
  unfold Format.word; rw [signWeight_eq]
  cases neg <;> simp <;> omega

theorem land_rest {neg : Bool} {r : Nat} (h : r < 2 ^ 63) : double.word neg r &&& 9223372036854775807 = r := by
  rw [show 9223372036854775807 = 2 ^ 63 - 1 from rfl, Nat.and_two_pow_sub_one_eq_mod]
  unfold Format.word; rw [signWeight_eq]
  cases neg <;> simp <;> omega

/-- The word without its sign. -/
theorem abs_word {neg : Bool} {r : Nat} (h : r < 2 ^ 63) : (Go.bits BinOp.andNot IntKind.u64 ((double.word neg r : Nat) : Int) 9223372036854775808).toNat = r := by
  have := u64_andNot_nat (double.word neg r) 9223372036854775808 (word_lt h) (by decide)
  rw [show ((9223372036854775808 : Nat) : Int) = 9223372036854775808 from rfl] at this
  rw [this, show 18446744073709551615 - 9223372036854775808 = 9223372036854775807 from rfl, land_rest h]
  rfl

/-- One word with the sign of another. -/
theorem copysign_word {neg neg' : Bool} {r r' : Nat} (h : r < 2 ^ 63) (h' : r' < 2 ^ 63) :
    (Go.bits BinOp.or IntKind.u64 (Go.bits BinOp.andNot IntKind.u64 ((double.word neg r : Nat) : Int) 9223372036854775808) (Go.bits BinOp.and IntKind.u64 ((double.word neg' r' : Nat) : Int) 9223372036854775808)).toNat = double.word neg' r := by
  have h1 := u64_andNot_nat (double.word neg r) 9223372036854775808 (word_lt h) (by decide)
  have h2 := u64_and_nat (double.word neg' r') 9223372036854775808 (word_lt h') (by decide)
  rw [show ((9223372036854775808 : Nat) : Int) = 9223372036854775808 from rfl] at h1 h2
  rw [h1, h2, show 18446744073709551615 - 9223372036854775808 = 9223372036854775807 from rfl, land_rest h, land_sign h']
  rw [u64_or_nat _ _ (by omega) (word_lt (by decide)), Nat.or_comm, nat_join 63 _ _ _ h]
  · show double.word neg' 0 + r = _
    unfold Format.word; cases neg' <;> simp
  · unfold Format.word; rw [signWeight_eq]; cases neg' <;> simp

theorem read_one : double.read 4607182418800017408 = .number false (2 ^ 52) (-52) := by decide

/-- Less than one: by the place of the last digit. -/
theorem abs_lt_one {m : Nat} {e : Int} (h1 : 2 ^ 52 ≤ m) (h2 : m < 2 ^ 53) (h3 : -1074 ≤ e) (h4 : e ≤ 971) :
    (double.order (bits false m e) 4607182418800017408 == some Ordering.lt) = decide (e ≤ -53) := by
  unfold Format.order
  rw [read_bits h1 h2 h3 h4, read_one]
  simp only [Datum.order, signed, if_false, Bool.false_eq_true]
  by_cases he : e ≤ -53
  · rw [show min e (-52) = e by omega, show (e - e).toNat = 0 by omega, shl_eq, shl_eq, Nat.pow_zero, Nat.mul_one]
    have hlt : m < 2 ^ 52 * 2 ^ (-52 - e).toNat := by
      calc m < 2 ^ 53 := h2
        _ = 2 ^ 52 * 2 ^ 1 := by decide
        _ ≤ _ := Nat.mul_le_mul_left _ (Nat.pow_le_pow_right (by decide) (by omega))
    have : compare ((m : Nat) : Int) ((2 ^ 52 * 2 ^ (-52 - e).toNat : Nat) : Int) = .lt := by
      rw [Int.compare_eq_lt]; exact Int.ofNat_lt.2 hlt
    rw [this, decide_eq_true he]; rfl
  · rw [show min e (-52) = -52 by omega, show ((-52 : Int) - -52).toNat = 0 by omega, shl_eq, shl_eq, Nat.pow_zero, Nat.mul_one]
    have hle : 2 ^ 52 ≤ m * 2 ^ (e - -52).toNat := Nat.le_trans h1 (Nat.le_mul_of_pos_right _ (Nat.two_pow_pos _))
    have : compare ((m * 2 ^ (e - -52).toNat : Nat) : Int) ((2 ^ 52 : Nat) : Int) ≠ .lt := by
      rw [Ne, Int.compare_eq_lt]; intro h; exact absurd (Int.ofNat_lt.1 h) (by omega)
    rw [decide_eq_false he]
    rw [beq_eq_false_iff_ne]
    intro h; exact this (Option.some.inj h)

/-- The exponent as the code takes it out of the word. -/
theorem exp_word {neg : Bool} {m : Nat} {e : Int} (h1 : 2 ^ 52 ≤ m) (h2 : m < 2 ^ 53) (h3 : -52 ≤ e) (h4 : e ≤ 971) :
    IntKind.u64.wrap (Go.bits BinOp.and IntKind.u64 (((bits neg m e : Nat) : Int) / 4503599627370496) 2047 - 1023) = e + 52 := by
  obtain ⟨k, hk⟩ : ∃ k : Nat, (e + 1074).toNat = k := ⟨_, rfl⟩
  have hw : bits neg m e < 18446744073709551616 := bits_lt h2 h4
  have h52 : ((bits neg m e : Nat) : Int) / 4503599627370496 = ((bits neg m e / 4503599627370496 : Nat) : Int) := by simp
  have := u64_and_nat (bits neg m e / 4503599627370496) 2047 (by omega) (by decide)
  rw [show ((2047 : Nat) : Int) = 2047 from rfl] at this
  rw [h52, this, show 2047 = 2 ^ 11 - 1 from rfl, Nat.and_two_pow_sub_one_eq_mod]
  have : bits neg m e / 4503599627370496 % 2 ^ 11 = k + 1 := by
    unfold bits Format.word; rw [signWeight_eq, hk]; cases neg <;> simp <;> omega
  rw [this]
  simp only [IntKind.wrap, IntKind.bits, IntKind.signed]
  simp
  omega

/-- The low digits cleared. -/
theorem clear_word {neg : Bool} {m : Nat} {e : Int} (_ : 2 ^ 52 ≤ m) (h2 : m < 2 ^ 53) (h3 : -52 ≤ e) (h4 : e < 0) :
    (Go.bits BinOp.andNot IntKind.u64 ((bits neg m e : Nat) : Int) ((2 ^ (-e).toNat - 1 : Nat) : Int)).toNat = bits neg (m / 2 ^ (-e).toNat * 2 ^ (-e).toNat) e := by
  obtain ⟨g, hg⟩ : ∃ g : Nat, (-e).toNat = g := ⟨_, rfl⟩
  have hg2 : g ≤ 52 := by omega
  have hp := Nat.two_pow_pos g
  have hple : 2 ^ g ≤ 2 ^ 52 := Nat.pow_le_pow_right (by decide) hg2
  have hw : bits neg m e < 18446744073709551616 := bits_lt h2 (by omega)
  rw [hg, u64_andNot_nat _ _ hw (by omega)]
  show bits neg m e &&& _ = _
  rw [land_low _ g hw (by omega)]
  unfold bits Format.word
  rw [signWeight_eq]
  obtain ⟨k, hk⟩ : ∃ k : Nat, (e + 1074).toNat = k := ⟨_, rfl⟩
  rw [hk]
  obtain ⟨c, hc⟩ : ∃ c, 2 ^ 52 = c * 2 ^ g := ⟨2 ^ (52 - g), by rw [← Nat.pow_add]; congr 1; omega⟩
  have h63 : 2 ^ 63 = c * 2 ^ 11 * 2 ^ g := by
    rw [show 2 ^ 63 = 2 ^ 11 * 2 ^ 52 by decide, hc]; generalize 2 ^ g = y; simp only [Nat.mul_assoc, Nat.mul_comm, Nat.mul_left_comm]
  have key : ∀ a, (a * 2 ^ g + m) / 2 ^ g * 2 ^ g = a * 2 ^ g + m / 2 ^ g * 2 ^ g := by
    intro a; rw [Nat.add_comm, Nat.add_mul_div_right _ _ hp, Nat.add_mul, Nat.add_comm]
  cases neg
  · simp only [if_false, Bool.false_eq_true]
    rw [hc, ← Nat.mul_assoc]
    exact key _
  · simp only [if_true]
    rw [h63, hc, ← Nat.mul_assoc, ← Nat.add_assoc, ← Nat.add_mul, key, Nat.add_mul, Nat.add_assoc]

/-- What is left is a whole number. -/
theorem cleared_whole {neg : Bool} {m : Nat} {e : Int} (h1 : 2 ^ 52 ≤ m) (h2 : m < 2 ^ 53) (h3 : -52 ≤ e) (h4 : e < 0) :
    bits neg (m / 2 ^ (-e).toNat * 2 ^ (-e).toNat) e = double.nearest neg (m / 2 ^ (-e).toNat) 0 := by
  obtain ⟨g, hg⟩ : ∃ g : Nat, (-e).toNat = g := ⟨_, rfl⟩
  have hp := Nat.two_pow_pos g
  rw [hg]
  have hg2 : g ≤ 52 := by omega
  have hq1 : 2 ^ (52 - g) ≤ m / 2 ^ g := by
    rw [Nat.le_div_iff_mul_le hp, ← Nat.pow_add, show 52 - g + g = 52 by omega]; exact h1
  have hq2 : m / 2 ^ g < 2 ^ (53 - g) := by
    rw [Nat.div_lt_iff_lt_mul hp, ← Nat.pow_add, show 53 - g + g = 53 by omega]; exact h2
  have hq0 : 0 < m / 2 ^ g := Nat.lt_of_lt_of_le (Nat.two_pow_pos _) hq1
  have hlog : (m / 2 ^ g).log2 = 52 - g := by
    apply Nat.le_antisymm
    · apply Nat.le_of_lt_succ; rw [Nat.log2_lt (by omega), show (52 - g).succ = 53 - g by omega]; exact hq2
    · rw [Nat.le_log2 (by omega)]; exact hq1
  have hlt53 : m / 2 ^ g < 2 ^ 53 := Nat.lt_of_le_of_lt (Nat.div_le_self _ _) h2
  rw [nearest_norm hq0 hlt53 (by omega) (by omega), hlog, show 52 - (52 - g) = g by omega]
  congr 1; omega
end Go.Proofs.YtobidgofiogndaaGreatDoor.Fl
