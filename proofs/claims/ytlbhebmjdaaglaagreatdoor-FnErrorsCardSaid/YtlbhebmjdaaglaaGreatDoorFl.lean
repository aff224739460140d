/-
  Plain facts on the double-precision numbers of the model: what nearest, read, order, add and the others give on numbers with few digits.
-/
import Ieee.Arith
import GoSem.Core.Float
namespace Go.Proofs.YtlbhebmjdaaglaaGreatDoor.Fl
set_option linter.unusedSimpArgs false
set_option linter.unusedVariables false
open Ieee

/-- The word of 'm * 2 ^ e' for a whole significand m of 53 digits. -/
def bits (neg : Bool) (m : Nat) (e : Int) : Nat := double.word neg ((e + 1074).toNat * 2 ^ 52 + m)

/-- The word of 'n * 2 ^ p'. -/
def fx (p : Int) (n : Int) : Nat := double.nearest (n < 0) n.natAbs p

theorem leastPlace_eq : double.leastPlace = -1074 := by decide
theorem binade_eq : double.binade = 2 ^ 52 := by decide
theorem infRung_eq : double.infRung = 2047 * 2 ^ 52 := by decide
theorem signWeight_eq : double.signWeight = 2 ^ 63 := by decide

theorem read_bits {neg : Bool} {m : Nat} {e : Int} (h1 : 2 ^ 52 ≤ m) (h2 : m < 2 ^ 53) (h3 : -1074 ≤ e) (h4 : e ≤ 971) :
    double.read (bits neg m e) = .number neg m e := by
  obtain ⟨k, hk⟩ : ∃ k : Nat, (e + 1074).toNat = k := ⟨_, rfl⟩
  have hke : e = (k : Int) - 1074 := by omega
  have hk2 : k ≤ 2045 := by omega
  unfold bits Format.read
  rw [hk]
  simp only [leastPlace_eq, binade_eq, infRung_eq, signWeight_eq]
  have hr : k * 2 ^ 52 + m < 2 ^ 63 := by omega
  have hw : double.word neg (k * 2 ^ 52 + m) % 2 ^ 63 = k * 2 ^ 52 + m := by
    unfold Format.word
    rw [signWeight_eq]
    cases neg <;> simp only [if_true, if_false, Bool.false_eq_true] <;> omega
  have hs : (double.word neg (k * 2 ^ 52 + m) / 2 ^ 63 % 2 == 1) = neg := by
    unfold Format.word
    rw [signWeight_eq]
    cases neg <;> simp only [if_true, if_false, Bool.false_eq_true]
    · rw [show (k * 2 ^ 52 + m) / 2 ^ 63 = 0 by omega]; rfl
    · rw [show (2 ^ 63 + (k * 2 ^ 52 + m)) / 2 ^ 63 = 1 by omega]; rfl
  rw [hw, hs]
  rw [if_neg (by omega), if_pos (by omega)]
  rw [show (k * 2 ^ 52 + m) % 2 ^ 52 = m - 2 ^ 52 by omega, show (k * 2 ^ 52 + m) / 2 ^ 52 = k + 1 by omega]
  rw [show 2 ^ 52 + (m - 2 ^ 52) = m by omega, show -1074 + ((k + 1 - 1 : Nat) : Int) = e by omega]

theorem shl_eq (a b : Nat) : a <<< b = a * 2 ^ b := Nat.shiftLeft_eq a b

theorem cut_exact (neg : Bool) (m j : Nat) : Toward.even.cut neg (m * 2 ^ j) j = m := by
  unfold Toward.cut
  by_cases h0 : m = 0
  · subst h0
    simp
  · have hlog : (m * 2 ^ j).log2 = m.log2 + j := by
      have h1 := Nat.log2_self_le h0
      have h2 := @Nat.lt_log2_self m
      have hne : m * 2 ^ j ≠ 0 := by have := Nat.two_pow_pos j; exact Nat.mul_ne_zero h0 (by omega)
      apply Nat.le_antisymm
      · apply Nat.le_of_lt_succ
        rw [Nat.log2_lt hne]
        rw [show (m.log2 + j).succ = (m.log2 + 1) + j by omega, Nat.pow_add]
        exact Nat.mul_lt_mul_of_pos_right h2 (Nat.two_pow_pos j)
      · rw [Nat.le_log2 hne, Nat.pow_add]
        exact Nat.mul_le_mul_right _ h1
    rw [hlog, show min j (m.log2 + j + 2) = j by omega, shl_eq, Nat.one_mul]
    have hp := Nat.two_pow_pos j
    have e1 : m * 2 ^ j / 2 ^ j = m := Nat.mul_div_cancel _ hp
    have e2 : m * 2 ^ j % 2 ^ j = 0 := Nat.mul_mod_left _ _
    simp only [e1, e2]
    have c1 : (decide (2 ^ j < 2 * 0)) = false := by simp
    have c2 : (2 ^ j == 2 * 0) = false := by rw [beq_eq_false_iff_ne]; omega
    rw [c1, c2]; simp

theorem log2_mul_pow {m : Nat} (h0 : m ≠ 0) (j : Nat) : (m * 2 ^ j).log2 = m.log2 + j := by
  have h1 := Nat.log2_self_le h0
  have h2 := @Nat.lt_log2_self m
  have hne : m * 2 ^ j ≠ 0 := by have := Nat.two_pow_pos j; exact Nat.mul_ne_zero h0 (by omega)
  apply Nat.le_antisymm
  · apply Nat.le_of_lt_succ
    rw [Nat.log2_lt hne]
    rw [show (m.log2 + j).succ = (m.log2 + 1) + j by omega, Nat.pow_add]
    exact Nat.mul_lt_mul_of_pos_right h2 (Nat.two_pow_pos j)
  · rw [Nat.le_log2 hne, Nat.pow_add]
    exact Nat.mul_le_mul_right _ h1

/-- A number with at most 53 digits is exact. -/
theorem nearest_norm {neg : Bool} {m : Nat} {p : Int} (h0 : 0 < m) (h : m < 2 ^ 53) (hp : -1000 ≤ p) (hp2 : p ≤ 900) :
    double.nearest neg m p = bits neg (m * 2 ^ (52 - m.log2)) (p - (52 - m.log2 : Nat)) := by
  have hl : m.log2 < 53 := (Nat.log2_lt (by omega)).2 h
  unfold Format.nearest
  rw [if_neg (by omega)]
  have hf : (double.fractionBits : Int) = 52 := rfl
  simp only [leastPlace_eq, binade_eq, infRung_eq, hf]
  have hlast : max (p + (m.log2 : Int) - 52) (-1074) = p - (52 - m.log2 : Nat) := by omega
  rw [hlast]
  have e1 : (p - (p - ((52 - m.log2 : Nat) : Int))).toNat = 52 - m.log2 := by omega
  have e2 : ((p - ((52 - m.log2 : Nat) : Int)) - p).toNat = 0 := by omega
  rw [e1, e2, shl_eq]
  have := cut_exact neg (m * 2 ^ (52 - m.log2)) 0
  rw [Nat.pow_zero, Nat.mul_one] at this
  rw [this]
  unfold bits
  congr 1
  have hm1 : m * 2 ^ (52 - m.log2) < 2 ^ 53 := by
    have h2 := @Nat.lt_log2_self m
    calc m * 2 ^ (52 - m.log2) < 2 ^ (m.log2 + 1) * 2 ^ (52 - m.log2) := Nat.mul_lt_mul_of_pos_right h2 (Nat.two_pow_pos _)
      _ = 2 ^ 53 := by rw [← Nat.pow_add]; congr 1; omega
  have e3 : (p - ((52 - m.log2 : Nat) : Int) - -1074).toNat = (p - ((52 - m.log2 : Nat) : Int) + 1074).toNat := by omega
  rw [e3]
  apply Nat.min_eq_left
  omega

theorem norm_bounds {m : Nat} (h0 : 0 < m) (h : m < 2 ^ 53) : 2 ^ 52 ≤ m * 2 ^ (52 - m.log2) ∧ m * 2 ^ (52 - m.log2) < 2 ^ 53 := by
  have hl : m.log2 < 53 := (Nat.log2_lt (by omega)).2 h
  have h1 := Nat.log2_self_le (n := m) (by omega)
  have h2 := @Nat.lt_log2_self m
  constructor
  · calc 2 ^ 52 = 2 ^ m.log2 * 2 ^ (52 - m.log2) := by rw [← Nat.pow_add]; congr 1; omega
      _ ≤ m * 2 ^ (52 - m.log2) := Nat.mul_le_mul_right _ h1
  · calc m * 2 ^ (52 - m.log2) < 2 ^ (m.log2 + 1) * 2 ^ (52 - m.log2) := Nat.mul_lt_mul_of_pos_right h2 (Nat.two_pow_pos _)
      _ = 2 ^ 53 := by rw [← Nat.pow_add]; congr 1; omega

theorem read_nearest {neg : Bool} {m : Nat} {p : Int} (h0 : 0 < m) (h : m < 2 ^ 53) (hp : -1000 ≤ p) (hp2 : p ≤ 900) :
    double.read (double.nearest neg m p) = .number neg (m * 2 ^ (52 - m.log2)) (p - (52 - m.log2 : Nat)) := by
  rw [nearest_norm h0 h hp hp2]
  have := norm_bounds h0 h
  exact read_bits this.1 this.2 (by omega) (by omega)

theorem read_zero (neg : Bool) (p : Int) : double.read (double.nearest neg 0 p) = .number neg 0 (-1074) := by
  unfold Format.nearest
  rw [if_pos rfl]
  cases neg <;> decide

/-- What is read of the word of 'n * 2 ^ p': a number whose exact value is that. -/
theorem read_fx {n p : Int} (h1 : -2 ^ 53 < n) (h2 : n < 2 ^ 53) (hp : -1000 ≤ p) (hp2 : p ≤ 900) :
    ∃ (m : Nat) (e : Int), double.read (fx p n) = .number (decide (n < 0)) m e ∧ e ≤ p ∧ -1074 ≤ e ∧ (n ≠ 0 → p - 52 ≤ e) ∧ (m : Int) = n.natAbs * 2 ^ (p - e).toNat := by
  unfold fx
  by_cases h0 : n = 0
  · subst h0
    exact ⟨0, -1074, read_zero _ _, by omega, by omega, fun h => absurd rfl h, by simp⟩
  · refine ⟨_, _, read_nearest (m := n.natAbs) (by omega) (by omega) hp hp2, by omega, by omega, fun _ => by omega, ?_⟩
    rw [show (p - (p - ((52 - n.natAbs.log2 : Nat) : Int))).toNat = 52 - n.natAbs.log2 by omega]
    push_cast; rfl

theorem signed_eq {n p e base : Int} {m : Nat} (hm : (m : Int) = n.natAbs * 2 ^ (p - e).toNat) (he : e ≤ p) (hb : base ≤ e) :
    signed (decide (n < 0)) m (e - base).toNat = n * 2 ^ (p - base).toNat := by
  unfold signed
  have hpow : (2 : Int) ^ (p - base).toNat = 2 ^ (p - e).toNat * 2 ^ (e - base).toNat := by
    rw [← Int.pow_add]; congr 1; omega
  have hc : ((m <<< (e - base).toNat : Nat) : Int) = (m : Int) * 2 ^ (e - base).toNat := by
    rw [shl_eq]; push_cast; rfl
  by_cases hn : n < 0
  · rw [if_pos (by simpa using hn), hc, hm, hpow, show ((n.natAbs : Nat) : Int) = -n by omega]
    rw [← Int.mul_assoc, ← Int.neg_mul, ← Int.neg_mul, Int.neg_neg]
  · rw [if_neg (by simpa using hn), hc, hm, hpow, show ((n.natAbs : Nat) : Int) = n by omega, ← Int.mul_assoc]

theorem compare_mul_pos (a b c : Int) (hc : 0 < c) : compare (a * c) (b * c) = compare a b := by
  show compareOfLessAndEq (a * c) (b * c) = compareOfLessAndEq a b
  unfold compareOfLessAndEq
  rcases Int.lt_trichotomy a b with h | h | h
  · have h' : a * c < b * c := Int.mul_lt_mul_of_pos_right h hc
    rw [if_pos h, if_pos h']
  · subst h; simp
  · have h' : b * c < a * c := Int.mul_lt_mul_of_pos_right h hc
    rw [if_neg (by omega), if_neg (by omega), if_neg (by omega), if_neg (by omega)]

theorem order_fx {a b p : Int} (h1 : -2 ^ 53 < a) (h2 : a < 2 ^ 53) (h3 : -2 ^ 53 < b) (h4 : b < 2 ^ 53) (hp : -1000 ≤ p) (hp2 : p ≤ 900) :
    double.order (fx p a) (fx p b) = some (compare a b) := by
  obtain ⟨m, e, hr, he, _, _, hm⟩ := read_fx h1 h2 hp hp2
  obtain ⟨m', e', hr', he', _, _, hm'⟩ := read_fx h3 h4 hp hp2
  unfold Format.order
  rw [hr, hr']
  simp only [Datum.order]
  rw [signed_eq hm he (by omega), signed_eq hm' he' (by omega), compare_mul_pos _ _ _ (Int.pow_pos (by decide))]

/-- The same value at another place has the same word. -/
theorem fx_shift {n p : Int} (j : Nat) (h1 : -2 ^ 53 < n * 2 ^ j) (h2 : n * 2 ^ j < 2 ^ 53) (hp : -1000 ≤ p) (hp2 : p + j ≤ 900) : fx p (n * 2 ^ j) = fx (p + j) n := by
  unfold fx
  have hpos : (0 : Int) < 2 ^ j := Int.pow_pos (by decide)
  by_cases h0 : n = 0
  · subst h0; simp [Format.nearest]
  have hneg : decide (n * 2 ^ j < 0) = decide (n < 0) := by
    by_cases hn : n < 0
    · have := Int.mul_neg_of_neg_of_pos hn hpos; simp [hn, this]
    · have : 0 ≤ n * 2 ^ j := Int.mul_nonneg (by omega) (by omega)
      simp [hn, this]
  have habs : (n * 2 ^ j).natAbs = n.natAbs * 2 ^ j := by
    rw [Int.natAbs_mul]; congr 1
  have hlt : n.natAbs * 2 ^ j < 2 ^ 53 := by rw [← habs]; omega
  have hle : n.natAbs ≤ n.natAbs * 2 ^ j := Nat.le_mul_of_pos_right _ (Nat.two_pow_pos j)
  have hp0 : 0 < n.natAbs * 2 ^ j := by omega
  rw [hneg, habs, nearest_norm hp0 hlt hp (by omega), nearest_norm (m := n.natAbs) (by omega) (by omega) (by omega) hp2]
  have hl : (n.natAbs * 2 ^ j).log2 = n.natAbs.log2 + j := log2_mul_pow (by omega) j
  have hl53 : n.natAbs.log2 + j < 53 := by rw [← hl]; exact (Nat.log2_lt (by omega)).2 hlt
  rw [hl]
  congr 1
  · rw [Nat.mul_assoc, ← Nat.pow_add, show j + (52 - (n.natAbs.log2 + j)) = 52 - n.natAbs.log2 by omega]
  · omega

/-- Rounding does not hang on how a number is written. -/
theorem nearest_mul_pow {neg : Bool} {m : Nat} {p : Int} (j : Nat) (h0 : 0 < m) (h : m < 2 ^ 53) (hp : -1000 ≤ p + j) (hp2 : p + j ≤ 900) :
    double.nearest neg (m * 2 ^ j) p = double.nearest neg m (p + j) := by
  have hl : m.log2 < 53 := (Nat.log2_lt (by omega)).2 h
  have hpos : 0 < m * 2 ^ j := Nat.mul_pos h0 (Nat.two_pow_pos j)
  have hf : (double.fractionBits : Int) = 52 := rfl
  unfold Format.nearest
  rw [if_neg (by omega), if_neg (by omega)]
  simp only [leastPlace_eq, binade_eq, infRung_eq, hf, log2_mul_pow (show m ≠ 0 by omega) j]
  have hlast : max (p + ((m.log2 + j : Nat) : Int) - 52) (-1074) = p + j - (52 - m.log2 : Nat) := by omega
  have hlast' : max (p + (j : Int) + (m.log2 : Int) - 52) (-1074) = p + j - (52 - m.log2 : Nat) := by omega
  rw [hlast, hlast']
  have hk : Toward.even.cut neg ((m * 2 ^ j) <<< (p - (p + (j : Int) - ((52 - m.log2 : Nat) : Int))).toNat) (p + (j : Int) - ((52 - m.log2 : Nat) : Int) - p).toNat = m * 2 ^ (52 - m.log2) := by
    rw [shl_eq]
    by_cases hj : j ≤ 52 - m.log2
    · rw [show (p - (p + (j : Int) - ((52 - m.log2 : Nat) : Int))).toNat = 52 - m.log2 - j by omega, show (p + (j : Int) - ((52 - m.log2 : Nat) : Int) - p).toNat = 0 by omega]
      have := cut_exact neg (m * 2 ^ j * 2 ^ (52 - m.log2 - j)) 0
      rw [Nat.pow_zero, Nat.mul_one] at this
      rw [this, Nat.mul_assoc, ← Nat.pow_add, show j + (52 - m.log2 - j) = 52 - m.log2 by omega]
    · rw [show (p - (p + (j : Int) - ((52 - m.log2 : Nat) : Int))).toNat = 0 by omega, show (p + (j : Int) - ((52 - m.log2 : Nat) : Int) - p).toNat = j - (52 - m.log2) by omega]
      have := cut_exact neg (m * 2 ^ (52 - m.log2)) (j - (52 - m.log2))
      rw [Nat.pow_zero, Nat.mul_one, ← this, Nat.mul_assoc, ← Nat.pow_add, show 52 - m.log2 + (j - (52 - m.log2)) = j by omega]
  have hk' : Toward.even.cut neg (m <<< (p + (j : Int) - (p + (j : Int) - ((52 - m.log2 : Nat) : Int))).toNat) (p + (j : Int) - ((52 - m.log2 : Nat) : Int) - (p + j)).toNat = m * 2 ^ (52 - m.log2) := by
    rw [shl_eq, show (p + (j : Int) - (p + (j : Int) - ((52 - m.log2 : Nat) : Int))).toNat = 52 - m.log2 by omega, show (p + (j : Int) - ((52 - m.log2 : Nat) : Int) - (p + j)).toNat = 0 by omega]
    have := cut_exact neg (m * 2 ^ (52 - m.log2)) 0
    rwa [Nat.pow_zero, Nat.mul_one] at this
  rw [hk, hk']

theorem pow_cast (j : Nat) : ((2 ^ j : Nat) : Int) = 2 ^ j := by push_cast; rfl

/-- A whole number of few digits, as it is rounded out of any way of writing it. -/
theorem nearest_int {n p : Int} {m : Nat} {e : Int} (h1 : -2 ^ 53 < n) (h2 : n < 2 ^ 53) (he : e ≤ p) (hp : -1000 ≤ p) (hp2 : p ≤ 900)
    (hm : (m : Int) = n.natAbs * 2 ^ (p - e).toNat) : double.nearest (decide (n < 0)) m e = fx p n := by
  have hm' : m = n.natAbs * 2 ^ (p - e).toNat := by
    have : (m : Int) = ((n.natAbs * 2 ^ (p - e).toNat : Nat) : Int) := by rw [hm]; push_cast; rfl
    exact Int.ofNat.inj this
  unfold fx
  by_cases h0 : n = 0
  · subst h0; rw [hm']; simp [Format.nearest]
  · rw [hm', nearest_mul_pow _ (by omega) (by omega) (by omega) (by omega)]
    congr 1; omega

theorem add_fx {a b p : Int} (h1 : -2 ^ 53 < a) (h2 : a < 2 ^ 53) (h3 : -2 ^ 53 < b) (h4 : b < 2 ^ 53) (h5 : -2 ^ 53 < a + b) (h6 : a + b < 2 ^ 53)
    (hp : -1000 ≤ p) (hp2 : p ≤ 900) : double.add (fx p a) (fx p b) = some (fx p (a + b)) := by
  obtain ⟨m, e, hr, he, _, _, hm⟩ := read_fx h1 h2 hp hp2
  obtain ⟨m', e', hr', he', _, _, hm'⟩ := read_fx h3 h4 hp hp2
  unfold Format.add
  rw [hr, hr']
  simp only [Datum.sum, Option.map_some, Format.write]
  have hmin : min e e' ≤ p := by omega
  rw [signed_eq hm he (by omega), signed_eq hm' he' (by omega), ← Int.add_mul]
  congr 1
  have hpos : (0 : Int) < 2 ^ (p - min e e').toNat := Int.pow_pos (by decide)
  by_cases h0 : a + b = 0
  · rw [h0, Int.zero_mul, if_pos rfl]
    have hz : (decide (a < 0) && decide (b < 0)) = false := by
      by_cases ha : a < 0
      · have : ¬ b < 0 := by omega
        simp [this]
      · simp [ha]
    rw [hz]
    simp [Format.nearest, fx]
  · have hne : (a + b) * 2 ^ (p - min e e').toNat ≠ 0 := by
      intro h; rcases Int.mul_eq_zero.1 h with h | h <;> omega
    rw [if_neg hne]
    have hneg : decide ((a + b) * 2 ^ (p - min e e').toNat < 0) = decide (a + b < 0) := by
      by_cases hn : a + b < 0
      · have := Int.mul_neg_of_neg_of_pos hn hpos; simp [hn, this]
      · have : 0 ≤ (a + b) * 2 ^ (p - min e e').toNat := Int.mul_nonneg (by omega) (by omega)
        have h' : ¬ (a + b) * 2 ^ (p - min e e').toNat < 0 := by omega
        simp [hn, h']
    rw [hneg]
    apply nearest_int h5 h6 hmin hp hp2
    rw [Int.natAbs_mul]; push_cast; congr 1

theorem opposite_read {n p : Int} (h0 : n ≠ 0) (h1 : -2 ^ 53 < n) (h2 : n < 2 ^ 53) (hp : -1000 ≤ p) (hp2 : p ≤ 900) :
    (double.read (fx p n)).opposite = double.read (fx p (-n)) := by
  unfold fx
  rw [read_nearest (m := n.natAbs) (by omega) (by omega) hp hp2, read_nearest (m := (-n).natAbs) (by omega) (by omega) hp hp2]
  simp only [Datum.opposite, Int.natAbs_neg]
  congr 1
  by_cases hn : n < 0
  · simp [hn]; omega
  · simp [hn]; omega

theorem sub_fx {a b p : Int} (h0 : b ≠ 0) (h1 : -2 ^ 53 < a) (h2 : a < 2 ^ 53) (h3 : -2 ^ 53 < b) (h4 : b < 2 ^ 53) (h5 : -2 ^ 53 < a - b) (h6 : a - b < 2 ^ 53)
    (hp : -1000 ≤ p) (hp2 : p ≤ 900) : double.sub (fx p a) (fx p b) = some (fx p (a - b)) := by
  have := add_fx (b := -b) h1 h2 (by omega) (by omega) (by omega) (by omega) hp hp2
  unfold Format.add at this
  unfold Format.sub
  rw [opposite_read h0 h3 h4 hp hp2, this, Int.sub_eq_add_neg]

theorem mul_fx {a b p q : Int} (h1 : -2 ^ 53 < a) (h2 : a < 2 ^ 53) (h3 : -2 ^ 53 < b) (h4 : b < 2 ^ 53) (h5 : -2 ^ 53 < a * b) (h6 : a * b < 2 ^ 53)
    (hz : a ≠ 0) (hz' : b ≠ 0) (hp : -500 ≤ p) (hp2 : p ≤ 400) (hq : -500 ≤ q) (hq2 : q ≤ 400) : double.mul (fx p a) (fx q b) = some (fx (p + q) (a * b)) := by
  obtain ⟨m, e, hr, he, _, _, hm⟩ := read_fx (p := p) h1 h2 (by omega) (by omega)
  obtain ⟨m', e', hr', he', _, _, hm'⟩ := read_fx (p := q) h3 h4 (by omega) (by omega)
  unfold Format.mul
  rw [hr, hr']
  simp only [Datum.product, Option.map_some, Format.write]
  congr 1
  have hneg : (decide (a < 0) ^^ decide (b < 0)) = decide (a * b < 0) := by
    rcases Int.lt_or_gt_of_ne hz with ha | ha <;> rcases Int.lt_or_gt_of_ne hz' with hb | hb
    · have := Int.mul_pos_of_neg_of_neg ha hb
      have h' : ¬ a * b < 0 := by omega
      simp [ha, hb, h']
    · have := Int.mul_neg_of_neg_of_pos ha hb
      have h' : ¬ b < 0 := by omega
      simp [ha, h', this]
    · have := Int.mul_neg_of_pos_of_neg ha hb
      have h' : ¬ a < 0 := by omega
      simp [hb, h', this]
    · have := Int.mul_pos ha hb
      have h' : ¬ a * b < 0 := by omega
      have ha' : ¬ a < 0 := by omega
      have hb' : ¬ b < 0 := by omega
      simp [ha', hb', h']
  rw [hneg]
  apply nearest_int h5 h6 (by omega) (by omega) (by omega)
  rw [Int.natAbs_mul]; push_cast; rw [hm, hm', show (p + q - (e + e')).toNat = (p - e).toNat + (q - e').toNat by omega, Int.pow_add]
  generalize (2 : Int) ^ (p - e).toNat = x
  generalize (2 : Int) ^ (q - e').toNat = y
  simp only [Int.mul_assoc, Int.mul_comm, Int.mul_left_comm]

/-- A whole number, as the conversion to an integer gives it. -/
theorem toInt_fx {n : Int} (h1 : -2 ^ 53 < n) (h2 : n < 2 ^ 53) : (double.read (fx 0 n)).toInt .zero = some n := by
  obtain ⟨m, e, hr, he, hl, _, hm⟩ := read_fx (p := 0) h1 h2 (by omega) (by omega)
  rw [hr]
  simp only [Datum.toInt, Datum.integral]
  rw [show e.toNat = 0 by omega, shl_eq, Nat.pow_zero, Nat.mul_one]
  have hm' : m = n.natAbs * 2 ^ (-e).toNat := by
    rw [show (0 - e) = -e by omega] at hm
    have : (m : Int) = ((n.natAbs * 2 ^ (-e).toNat : Nat) : Int) := by rw [hm]; push_cast; rfl
    exact Int.ofNat.inj this
  have hcut : Toward.zero.cut (decide (n < 0)) m (-e).toNat = n.natAbs := by
    rw [hm']
    unfold Toward.cut
    simp only [Bool.toNat_false, Nat.add_zero]
    by_cases h0 : n = 0
    · subst h0; simp
    · rw [log2_mul_pow (by omega), show min (-e).toNat (n.natAbs.log2 + (-e).toNat + 2) = (-e).toNat by omega, shl_eq, Nat.one_mul, Nat.mul_div_cancel _ (Nat.two_pow_pos _)]
  rw [hcut]
  unfold signed
  rw [shl_eq, Nat.pow_zero, Nat.mul_one]
  by_cases hn : n < 0
  · simp [hn]; omega
  · simp [hn]; omega

/-- The quotient by a power of two. -/
theorem div_pow {n : Int} {k : Nat} (h1 : -2 ^ 53 < n) (h2 : n < 2 ^ 53) (hk : k ≤ 52) : double.div (fx 0 n) (fx 0 (2 ^ k)) = some (fx (-(k : Int)) n) := by
  have hk2 : (2 : Int) ^ k < 2 ^ 53 := by
    rw [← pow_cast, ← pow_cast]
    exact Int.ofNat_lt.2 (Nat.pow_lt_pow_right (by decide) (by omega))
  have hk0 : (0 : Int) < 2 ^ k := Int.pow_pos (by decide)
  have hd : double.read (fx 0 (2 ^ k)) = .number false (2 ^ 52) ((k : Int) - 52) := by
    have hab : ((2 : Int) ^ k).natAbs = 2 ^ k := by simp [Int.natAbs_pow]
    unfold fx
    rw [hab, read_nearest (Nat.two_pow_pos k) (Nat.pow_lt_pow_right (by decide) (by omega)) (by omega) (by omega)]
    rw [Nat.log2_two_pow, ← Nat.pow_add, show k + (52 - k) = 52 by omega, show (0 : Int) - ((52 - k : Nat) : Int) = (k : Int) - 52 by omega]
    have : ¬ (2 : Int) ^ k < 0 := by omega
    simp [this]
  unfold Format.div
  rw [hd]
  by_cases h0 : n = 0
  · subst h0
    have : double.read (fx 0 0) = .number false 0 (-1074) := by unfold fx; exact read_zero _ _
    rw [this]
    simp only [Datum.quotient]
    rw [if_neg (by decide)]
    simp [Format.nearest, fx, Format.write]
  · obtain ⟨m, e, hr, he, hl, hl2, hm⟩ := read_fx (p := 0) h1 h2 (by omega) (by omega)
    have hl3 := hl2 h0
    rw [hr]
    simp only [Datum.quotient]
    rw [if_neg (by decide)]
    simp only [Option.map_some, Format.write]
    have hm' : m = n.natAbs * 2 ^ (-e).toNat := by
      rw [show (0 - e) = -e by omega] at hm
      have : (m : Int) = ((n.natAbs * 2 ^ (-e).toNat : Nat) : Int) := by rw [hm]; push_cast; rfl
      exact Int.ofNat.inj this
    have hpos : 0 < m := by rw [hm']; exact Nat.mul_pos (by omega) (Nat.two_pow_pos _)
    congr 1
    rw [Bool.xor_false, Nat.log2_two_pow, shl_eq]
    have hf : double.fractionBits = 52 := rfl
    rw [hf]
    have hmlog : m.log2 < 53 + 52 := by
      rw [Nat.log2_lt (by omega), hm']
      calc n.natAbs * 2 ^ (-e).toNat < 2 ^ 53 * 2 ^ (-e).toNat := Nat.mul_lt_mul_of_pos_right (by omega) (Nat.two_pow_pos _)
        _ = 2 ^ (53 + (-e).toNat) := by rw [Nat.pow_add]
        _ ≤ 2 ^ (53 + 52) := Nat.pow_le_pow_right (by decide) (by omega)
    obtain ⟨t, ht⟩ : ∃ t, 52 + 2 + 52 - m.log2 = t := ⟨_, rfl⟩
    rw [ht]
    have hlow : m.log2 ≤ 52 := by
      have hr2 := hr
      unfold fx at hr2
      rw [read_nearest (m := n.natAbs) (by omega) (by omega) (by omega) (by omega)] at hr2
      have hb := norm_bounds (m := n.natAbs) (by omega) (by omega)
      injection hr2 with _ hmm _
      rw [hmm] at hb
      have := (Nat.log2_lt (n := m) (k := 53) (by omega)).2 hb.2
      omega
    have ht52 : 52 ≤ t := by omega
    have hmod : m * 2 ^ t % 2 ^ 52 = 0 := by
      rw [show t = (t - 52) + 52 by omega, Nat.pow_add, ← Nat.mul_assoc]; exact Nat.mul_mod_left _ _
    have hdiv : m * 2 ^ t / 2 ^ 52 = m * 2 ^ (t - 52) := by
      rw [show t = (t - 52) + 52 by omega, Nat.pow_add, ← Nat.mul_assoc, Nat.mul_div_cancel _ (Nat.two_pow_pos _), show t - 52 + 52 - 52 = t - 52 by omega]
    rw [hmod, hdiv]
    have hz : ((0 : Nat) != 0).toNat = 0 := rfl
    rw [hz, Nat.add_zero]
    apply nearest_int h1 h2 (by omega) (by omega) (by omega)
    push_cast
    rw [hm]
    rw [show (-(k : Int) - (e - ((k : Int) - 52) - (t : Int) - 1)).toNat = 1 + (t - 52) + (0 - e).toNat by omega, Int.pow_add, Int.pow_add]
    generalize (2 : Int) ^ (0 - e).toNat = x
    generalize (2 : Int) ^ (t - 52) = y
    have : (2 : Int) ^ 1 = 2 := rfl
    rw [this]
    simp only [Int.mul_assoc, Int.mul_comm, Int.mul_left_comm]
end Go.Proofs.YtlbhebmjdaaglaaGreatDoor.Fl
