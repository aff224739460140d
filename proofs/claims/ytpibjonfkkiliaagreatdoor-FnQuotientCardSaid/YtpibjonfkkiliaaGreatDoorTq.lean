/-
  The whole part of a quotient of two whole numbers, out of the word of the quotient.
-/
import Derived.Test.YtpibjonfkkiliaaGreatDoorTp
namespace Go.Proofs.YtpibjonfkkiliaaGreatDoor.Fl
open Ieee

/-- A whole part and a sticky digit, cut to the nearest: the digits kept, or one more. -/
theorem cut_near (neg : Bool) (m j : Nat) (hm : m.log2 + 2 ≥ j) : ∃ c, Toward.even.cut neg m j = m / 2 ^ j + c ∧ c ≤ 1 := by
  unfold Toward.cut
  rw [show min j (m.log2 + 2) = j by omega, shl_eq, Nat.one_mul]
  exact ⟨_, rfl, Bool.toNat_le _⟩

theorem log2_div_bounds {m1 m2 : Nat} (h1 : 2 ^ 52 ≤ m1) (h2 : m1 < 2 ^ 53) (h3 : 2 ^ 52 ≤ m2) (h4 : m2 < 2 ^ 53) (s : Nat) (hs : s ≤ 1) :
    2 ^ 54 ≤ 2 * (m1 * 2 ^ 54 / m2) + s ∧ 2 * (m1 * 2 ^ 54 / m2) + s < 2 ^ 56 ∧ (m1 < m2 → 2 * (m1 * 2 ^ 54 / m2) + s < 2 ^ 55) ∧ (m2 ≤ m1 → 2 ^ 55 ≤ 2 * (m1 * 2 ^ 54 / m2) + s) := by
  have hp : 0 < m2 := by omega
  have a1 : 2 ^ 53 ≤ m1 * 2 ^ 54 / m2 := by
    rw [Nat.le_div_iff_mul_le hp]; omega
  have a2 : m1 * 2 ^ 54 / m2 < 2 ^ 55 := by
    rw [Nat.div_lt_iff_lt_mul hp]; omega
  refine ⟨by omega, by omega, fun h => ?_, fun h => ?_⟩
  · have : m1 * 2 ^ 54 / m2 < 2 ^ 54 := by rw [Nat.div_lt_iff_lt_mul hp]; omega
    omega
  · have : 2 ^ 54 ≤ m1 * 2 ^ 54 / m2 := by rw [Nat.le_div_iff_mul_le hp]; omega
    omega

/-- Digits dropped of the doubled quotient. -/
theorem drop_quot (m1 m2 s j : Nat) (hs : s ≤ 1) (hj : 1 ≤ j) : (2 * (m1 / m2) + s) / 2 ^ j = m1 / (m2 * 2 ^ (j - 1)) := by
  obtain ⟨i, rfl⟩ : ∃ i, j = i + 1 := ⟨j - 1, by omega⟩
  rw [show i + 1 - 1 = i by omega, Nat.pow_succ, Nat.mul_comm (2 ^ i) 2, ← Nat.div_div_eq_div_mul, show (2 * (m1 / m2) + s) / 2 = m1 / m2 by omega, Nat.div_div_eq_div_mul]

/-- One more than the whole part at a finer place stays under the next whole number. -/
theorem under_next {N K g L : Nat} (hK : 0 < K) (hg : 2 * K ≤ 2 ^ g) (hL : N < L * K) : N * 2 ^ g / K + 1 < L * 2 ^ g := by
  generalize 2 ^ g = y at *
  have h1 : N * y ≤ (L * K - 1) * y := Nat.mul_le_mul_right _ (by omega)
  have h2 : (L * K - 1) * y = L * K * y - y := by rw [Nat.sub_mul, Nat.one_mul]
  have h3 : L * K * y = L * y * K := by rw [Nat.mul_assoc, Nat.mul_comm K, ← Nat.mul_assoc]
  have h4 : N * y / K * K ≤ N * y := Nat.div_mul_le_self _ _
  have h6 : y ≤ L * K * y := Nat.le_mul_of_pos_left _ (by omega)
  have h5 : (N * y / K + 1 + 1) * K ≤ L * y * K := by
    rw [Nat.add_mul, Nat.add_mul, Nat.one_mul]
    omega
  have := Nat.le_of_mul_le_mul_right h5 hK
  omega

/-- The word of a quotient of whole numbers: a significand whose digits ahead of the point are the whole part. -/
theorem div_whole {n k : Int} (hn0 : n ≠ 0) (hk0 : k ≠ 0) (hn : n.natAbs < 2 ^ 31) (hk : k.natAbs < 2 ^ 31) :
    ∃ (m : Nat) (e : Int), double.div (fx 0 n) (fx 0 k) = some (bits (Bool.xor (decide (n < 0)) (decide (k < 0))) m e) ∧ 2 ^ 52 ≤ m ∧ m < 2 ^ 53 ∧ -1074 ≤ e ∧ e < 0 ∧
      (n.natAbs < k.natAbs → e ≤ -53) ∧ (k.natAbs ≤ n.natAbs → -52 ≤ e ∧ m / 2 ^ (-e).toNat = n.natAbs / k.natAbs) := by
  generalize hN : n.natAbs = N at *
  generalize hK : k.natAbs = K at *
  have hN0 : 0 < N := by omega
  have hK0 : 0 < K := by omega
  unfold Format.div fx
  rw [hN, hK, read_nearest hN0 (by omega) (by omega) (by omega), read_nearest hK0 (by omega) (by omega) (by omega)]
  have bN := norm_bounds hN0 (show N < 2 ^ 53 by omega)
  have bK := norm_bounds hK0 (show K < 2 ^ 53 by omega)
  have lN : N.log2 < 31 := (Nat.log2_lt (by omega)).2 hn
  have lK : K.log2 < 31 := (Nat.log2_lt (by omega)).2 hk
  have sN := Nat.log2_self_le (n := N) (by omega)
  have sN' := @Nat.lt_log2_self N
  have sK := Nat.log2_self_le (n := K) (by omega)
  have sK' := @Nat.lt_log2_self K
  generalize hs : Bool.xor (decide (n < 0)) (decide (k < 0)) = sg
  generalize ha : N.log2 = a at *
  generalize hb : K.log2 = b at *
  have l1 : (N * 2 ^ (52 - a)).log2 = 52 := by rw [log2_mul_pow (by omega), ha]; omega
  have l2 : (K * 2 ^ (52 - b)).log2 = 52 := by rw [log2_mul_pow (by omega), hb]; omega
  simp only [Datum.quotient]
  rw [if_neg (by omega), l1, l2, hs]
  have hf : double.fractionBits = 52 := rfl
  simp only [Option.map_some, Format.write, hf]
  rw [show 52 + 2 + 52 - 52 = 54 by omega, shl_eq]
  obtain ⟨s, hs1, hs2⟩ : ∃ s, (N * 2 ^ (52 - a) * 2 ^ 54 % (K * 2 ^ (52 - b)) != 0).toNat = s ∧ s ≤ 1 := ⟨_, rfl, Bool.toNat_le _⟩
  rw [hs1]
  obtain ⟨q1, q2, q3, q4⟩ := log2_div_bounds bN.1 bN.2 bK.1 bK.2 s hs2
  have hdrop := fun j => drop_quot (N * 2 ^ (52 - a) * 2 ^ 54) (K * 2 ^ (52 - b)) s j hs2
  generalize hq : 2 * (N * 2 ^ (52 - a) * 2 ^ 54 / (K * 2 ^ (52 - b))) + s = q at *
  obtain ⟨j, hj⟩ : ∃ j, q.log2 = 52 + j := ⟨q.log2 - 52, by have := (Nat.le_log2 (n := q) (k := 54) (by omega)).2 q1; omega⟩
  have hj1 : 2 ≤ j := by have := (Nat.le_log2 (n := q) (k := 54) (by omega)).2 q1; omega
  have hj2 : j ≤ 3 := by have := (Nat.log2_lt (n := q) (k := 56) (by omega)).2 q2; omega
  have hj3 : N * 2 ^ (52 - a) < K * 2 ^ (52 - b) → j = 2 := fun h => by have := (Nat.log2_lt (n := q) (k := 55) (by omega)).2 (q3 h); omega
  have hj4 : K * 2 ^ (52 - b) ≤ N * 2 ^ (52 - a) → j = 3 := fun h => by have := (Nat.le_log2 (n := q) (k := 55) (by omega)).2 (q4 h); omega
  have qs := Nat.log2_self_le (n := q) (by omega)
  have qs' := @Nat.lt_log2_self q
  rw [hj] at qs qs'
  obtain ⟨g, hg⟩ : ∃ g : Nat, (g : Int) = 55 - j - a + b := ⟨(55 - j - a + b : Int).toNat, by omega⟩
  have hplace : (0 - ((52 - a : Nat) : Int) - (0 - ((52 - b : Nat) : Int)) - (54 : Nat) - 1) = -(g : Int) - j := by omega
  rw [hplace]
  -- the digits kept
  have hlow : q / 2 ^ j = N * 2 ^ g / K := by
    rw [hdrop j (by omega)]
    have e1 : N * 2 ^ (52 - a) * 2 ^ 54 = N * 2 ^ g * 2 ^ (52 - b + (j - 1)) := by
      rw [Nat.mul_assoc, Nat.mul_assoc, ← Nat.pow_add, ← Nat.pow_add]; congr 2; omega
    have e2 : K * 2 ^ (52 - b) * 2 ^ (j - 1) = K * 2 ^ (52 - b + (j - 1)) := by rw [Nat.mul_assoc, ← Nat.pow_add]
    rw [e1, e2, Nat.mul_div_mul_right _ _ (Nat.two_pow_pos _)]
  have hlow1 : 2 ^ 52 ≤ q / 2 ^ j := by
    rw [Nat.le_div_iff_mul_le (Nat.two_pow_pos _), ← Nat.pow_add]; exact qs
  have hlow2 : q / 2 ^ j < 2 ^ 53 := by
    rw [Nat.div_lt_iff_lt_mul (Nat.two_pow_pos _), ← Nat.pow_add, show 53 + j = 52 + j + 1 by omega]; exact qs'
  obtain ⟨c, hcut, hc1⟩ := cut_near sg q j (by omega)
  rw [hlow] at hcut hlow1 hlow2
  -- a quotient of whole numbers is never just under a power of two
  have h53 : N * 2 ^ g / K + c < 2 ^ 53 := by
    by_cases hgs : g ≤ 53
    · have hgK : 2 * K ≤ 2 ^ g := by
        have : 2 * K ≤ 2 ^ (b + 2) := by rw [show b + 2 = b + 1 + 1 by omega, Nat.pow_succ]; omega
        exact Nat.le_trans this (Nat.pow_le_pow_right (by decide) (by omega))
      have hL : N < 2 ^ (53 - g) * K := by
        have : N * 2 ^ g < 2 ^ 53 * K := by
          have := (Nat.div_lt_iff_lt_mul hK0).1 hlow2
          exact this
        rw [show 53 = 53 - g + g by omega, Nat.pow_add, Nat.mul_assoc, Nat.mul_comm (2 ^ g) K, ← Nat.mul_assoc] at this
        exact Nat.lt_of_mul_lt_mul_right this
      have := under_next hK0 hgK hL
      rw [← Nat.pow_add, show 53 - g + g = 53 by omega] at this
      omega
    · have hL : N * 2 ^ (g - 53) < 1 * K := by
        have : N * 2 ^ g < 2 ^ 53 * K := (Nat.div_lt_iff_lt_mul hK0).1 hlow2
        rw [show g = g - 53 + 53 by omega, Nat.pow_add, ← Nat.mul_assoc, Nat.mul_comm (2 ^ 53) K] at this
        rw [Nat.one_mul]
        exact Nat.lt_of_mul_lt_mul_right this
      have := under_next (g := 53) hK0 (by omega) hL
      rw [Nat.mul_assoc, ← Nat.pow_add, show g - 53 + 53 = g by omega, Nat.one_mul] at this
      omega
  refine ⟨N * 2 ^ g / K + c, -(g : Int), ?_, by omega, h53, by omega, by omega, ?_, ?_⟩
  · unfold Format.nearest
    rw [if_neg (by omega)]
    simp only [leastPlace_eq, binade_eq, infRung_eq, hf, hj]
    have hlast : max (-(g : Int) - j + ((52 + j : Nat) : Int) - (52 : Nat)) (-1074) = -(g : Int) := by omega
    rw [hlast, show (-(g : Int) - j - -(g : Int)).toNat = 0 by omega, show (-(g : Int) - (-(g : Int) - j)).toNat = j by omega, shl_eq, Nat.pow_zero, Nat.mul_one, hcut]
    unfold bits
    rw [show (-(g : Int) - -1074).toNat = (-(g : Int) + 1074).toNat by omega]
    congr 2
    apply Nat.min_eq_left
    obtain ⟨r, hr⟩ : ∃ r : Nat, (-(g : Int) + 1074).toNat = r := ⟨_, rfl⟩
    rw [hr]; omega
  · intro h
    by_cases hab : a = b
    · have : N * 2 ^ (52 - a) < K * 2 ^ (52 - b) := by rw [hab]; exact Nat.mul_lt_mul_of_pos_right h (Nat.two_pow_pos _)
      have := hj3 this; omega
    · have : a < b := by
        have h1 : a ≤ b := by
          have : 2 ^ a < 2 ^ (b + 1) := by omega
          have := (Nat.pow_lt_pow_iff_right (by decide)).1 this
          omega
        omega
      omega
  · intro h
    have hba : b ≤ a := by
      have : 2 ^ b < 2 ^ (a + 1) := by omega
      have := (Nat.pow_lt_pow_iff_right (by decide)).1 this
      omega
    have hg52 : g ≤ 52 := by
      by_cases hab : a = b
      · have : K * 2 ^ (52 - b) ≤ N * 2 ^ (52 - a) := by rw [hab]; exact Nat.mul_le_mul_right _ h
        have := hj4 this; omega
      · omega
    refine ⟨by omega, ?_⟩
    rw [show (- -(g : Int)).toNat = g by omega]
    have hgK : 2 * K ≤ 2 ^ g := by
      have : 2 * K ≤ 2 ^ (b + 2) := by rw [show b + 2 = b + 1 + 1 by omega, Nat.pow_succ]; omega
      exact Nat.le_trans this (Nat.pow_le_pow_right (by decide) (by omega))
    have hL : N < (N / K + 1) * K := by
      have := Nat.div_add_mod N K
      have h2 := Nat.mod_lt N hK0
      rw [Nat.add_mul, Nat.one_mul, Nat.mul_comm]; omega
    have hup := under_next hK0 hgK hL
    have hdn : N / K * 2 ^ g ≤ N * 2 ^ g / K := by
      rw [Nat.le_div_iff_mul_le hK0, Nat.mul_assoc, Nat.mul_comm (2 ^ g) K, ← Nat.mul_assoc]
      exact Nat.mul_le_mul_right _ (Nat.div_mul_le_self _ _)
    apply Nat.div_eq_of_lt_le
    · omega
    · omega

theorem tdiv_sign {n k : Int} (hk : k ≠ 0) (h : k.natAbs ≤ n.natAbs) : decide (n.tdiv k < 0) = Bool.xor (decide (n < 0)) (decide (k < 0)) := by
  have hab : (n.tdiv k).natAbs = n.natAbs / k.natAbs := Int.natAbs_tdiv n k
  have h1 : 1 ≤ n.natAbs / k.natAbs := by rw [Nat.le_div_iff_mul_le (by omega), Nat.one_mul]; exact h
  rcases Int.lt_or_lt_of_ne hk with hk | hk <;> by_cases hn : n < 0
  · have h2 : 0 ≤ n.tdiv k := by
      have := Int.tdiv_nonneg (a := -n) (b := -k) (by omega) (by omega)
      rwa [Int.neg_tdiv, Int.tdiv_neg, Int.neg_neg] at this
    have h3 : ¬ n.tdiv k < 0 := by omega
    simp [hn, hk, h3]
  · have h2 : n.tdiv k ≤ 0 := by
      have := Int.tdiv_nonneg (a := n) (b := -k) (by omega) (by omega)
      rw [Int.tdiv_neg] at this; omega
    have h3 : n.tdiv k < 0 := by omega
    simp [hn, hk, h3]
  · have h2 : n.tdiv k ≤ 0 := by
      have := Int.tdiv_nonneg (a := -n) (b := k) (by omega) (by omega)
      rw [Int.neg_tdiv] at this; omega
    have h3 : n.tdiv k < 0 := by omega
    have h4 : ¬ k < 0 := by omega
    simp [hn, h4, h3]
  · have h2 := Int.tdiv_nonneg (a := n) (b := k) (by omega) (by omega)
    have h3 : ¬ n.tdiv k < 0 := by omega
    have h4 : ¬ k < 0 := by omega
    simp [hn, h4, h3]

theorem div_nought {m : Int} (h0 : m ≠ 0) (h1 : -2 ^ 53 < m) (h2 : m < 2 ^ 53) : double.div (fx 0 0) (fx 0 m) = some (double.word (decide (m < 0)) 0) := by
  obtain ⟨k, e, hr, he, hl, hl2, hm⟩ := read_fx (p := 0) h1 h2 (by omega) (by omega)
  have hk0 : k ≠ 0 := by
    intro hk; rw [hk] at hm
    have hp : (0 : Int) < 2 ^ (0 - e).toNat := Int.pow_pos (by decide)
    have : (m.natAbs : Int) * 2 ^ (0 - e).toNat ≠ 0 := by
      intro h; rcases Int.mul_eq_zero.1 h with h | h <;> omega
    exact this (by rw [← hm]; rfl)
  unfold Format.div
  rw [hr, show double.read (fx 0 0) = .number false 0 (-1074) from read_zero _ _]
  simp only [Datum.quotient]
  rw [if_neg hk0]
  simp [Format.nearest, Format.write]

theorem quot_small {n k : Int} (h : n.natAbs < k.natAbs) : n.tdiv k = 0 := by
  have hab : (n.tdiv k).natAbs = n.natAbs / k.natAbs := Int.natAbs_tdiv n k
  rw [Nat.div_eq_of_lt h] at hab
  omega
end Go.Proofs.YtpibjonfkkiliaaGreatDoor.Fl
