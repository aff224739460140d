/-
  The shortest form of a float word, in plain numbers: fast unrounded scaling, and how many digits a number has.
-/
import Derived.Lib.BitFns
namespace Go.Proofs.YtlbhebmjdaaglaaGreatDoor.Ff
set_option maxRecDepth 100000

/-- What the scaling leaves of x: the upper part behind the shift, and whether anything was lost. -/
def usc (x hi lo s : Nat) : Nat :=
  if x * hi / 18446744073709551616 / 2 ^ s * 2 ^ s ≠ x * hi / 18446744073709551616 then (x * hi / 18446744073709551616 / 2 ^ s) ||| 1
  else ((x * hi / 18446744073709551616 + 18446744073709551616 - (if x * hi % 18446744073709551616 < x * lo / 18446744073709551616 then 1 else 0)) % 18446744073709551616 / 2 ^ s) |||
    (if 1 < (x * hi % 18446744073709551616 + 18446744073709551616 - x * lo / 18446744073709551616) % 18446744073709551616 then 1 else 0)

def l10 (x : Int) : Int := x * 78913 / 262144
def l2 (x : Int) : Int := x * 108853 / 32768
def skw (x : Int) : Int := (x * 631305 - 261663) / 2097152

/-- The power of ten for an exponent. -/
def pOf (two : Bool) (e : Int) : Int := if two then -skw (e + 11) else -l10 (e + 11)
def sOf (e p : Int) : Int := -(e + l2 p + 3)

/-- All exponents of a normal double: the power lies in the table, the shift is small. -/
theorem range_all : ((List.range 2046).all fun k => [true, false].all fun b =>
    decide (0 ≤ pOf b ((k : Int) - 1085) + 348 ∧ pOf b ((k : Int) - 1085) + 348 < 696 ∧ 2 ≤ sOf ((k : Int) - 1085) (pOf b ((k : Int) - 1085)) ∧ sOf ((k : Int) - 1085) (pOf b ((k : Int) - 1085)) < 64)) = true := by decide +kernel

theorem range_of {e : Int} (h1 : -1085 ≤ e) (h2 : e ≤ 960) (b : Bool) : 0 ≤ pOf b e + 348 ∧ pOf b e + 348 < 696 ∧ 2 ≤ sOf e (pOf b e) ∧ sOf e (pOf b e) < 64 := by
  have h := List.all_eq_true.1 range_all (e + 1085).toNat (List.mem_range.2 (by omega))
  have h := List.all_eq_true.1 h b (by cases b <;> simp)
  have e1 : (((e + 1085).toNat : Nat) : Int) - 1085 = e := by omega
  rw [e1] at h
  simpa using h

/-- The digits and the power of the shortest form of m * 2^e (m with its first bit at 63). -/
def shortP (T : Nat → Nat × Nat) (m : Nat) (e : Int) : Nat × Int :=
  let two := decide (m = 9223372036854775808 ∧ -1085 < e)
  let mn := m - (if two then 512 else 1024)
  let mx := m + 1024
  let odd := m / 2048 % 2
  let p := pOf two e
  let s := (sOf e p).toNat
  let t := T (p + 348).toNat
  let dmin := (usc mn t.1 t.2 s + odd + 3) / 4
  let dmax := (usc mx t.1 t.2 s + 18446744073709551616 - odd) % 18446744073709551616 / 4
  if dmin ≤ dmax / 10 * 10 then (dmax / 10, 1 - p)
  else if dmin < dmax then ((usc m t.1 t.2 s + 1 + usc m t.1 t.2 s / 4 % 2) / 4, -p) else (dmin, -p)

/-- How many digits a number has. -/
def ndig (d : Nat) : Nat := Lib.bitLen d * 78913 / 262144 + (if 10 ^ (Lib.bitLen d * 78913 / 262144) ≤ d then 1 else 0)

theorem ndig_steps : ((List.range 65).all fun L => decide (10 ^ (L * 78913 / 262144) ≤ 2 ^ L ∧ 2 ^ L ≤ 10 ^ (L * 78913 / 262144 + 1) ∧ L * 78913 / 262144 ≤ 19 ∧ (1 ≤ L → 10 ^ (L * 78913 / 262144) ≤ 10 * 2 ^ (L - 1)))) = true := by decide +kernel
theorem bitLen_zero : Lib.bitLen 0 = 0 := by decide

theorem bitLen_pow (x : Nat) : x ≠ 0 → x < 2 ^ 64 → 1 ≤ Lib.bitLen x ∧ Lib.bitLen x ≤ 64 ∧ 2 ^ (Lib.bitLen x - 1) ≤ x ∧ x < 2 ^ Lib.bitLen x := by
  induction x using Nat.strongRecOn with
  | _ x ih =>
    intro h0 h1
    have hle := Lib.bitLen_le x 64 (Nat.le_refl _) h1
    have hh := Lib.bitLen_half x h0 h1
    by_cases h2 : x / 2 = 0
    · rw [h2, bitLen_zero] at hh
      rw [hh]
      have : x = 1 := by omega
      subst this
      decide
    · obtain ⟨q1, q2, q3, q4⟩ := ih (x / 2) (by omega) h2 (by omega)
      rw [hh] at hle ⊢
      refine ⟨by omega, hle, ?_, ?_⟩
      · rw [show 1 + Lib.bitLen (x / 2) - 1 = (Lib.bitLen (x / 2) - 1) + 1 by omega, Nat.pow_succ]
        omega
      · rw [show 1 + Lib.bitLen (x / 2) = Lib.bitLen (x / 2) + 1 by omega, Nat.pow_succ]
        omega

theorem ndig_zero : ndig 0 = 0 := by unfold ndig; rw [bitLen_zero]; rfl

/-- The number of digits is right. -/
theorem ndig_ok (d : Nat) (h0 : d ≠ 0) (h1 : d < 2 ^ 64) : 1 ≤ ndig d ∧ ndig d ≤ 20 ∧ 10 ^ (ndig d - 1) ≤ d ∧ d < 10 ^ ndig d := by
  obtain ⟨q1, q2, q3, q4⟩ := bitLen_pow d h0 h1
  have h := List.all_eq_true.1 ndig_steps (Lib.bitLen d) (List.mem_range.2 (by omega))
  obtain ⟨s1, s2, s3, s4⟩ := of_decide_eq_true h
  have s4 := s4 q1
  unfold ndig
  generalize Lib.bitLen d * 78913 / 262144 = n at *
  by_cases hd : 10 ^ n ≤ d
  · rw [if_pos hd]
    exact ⟨by omega, by omega, by rw [Nat.add_sub_cancel]; exact hd, Nat.lt_of_lt_of_le q4 s2⟩
  · rw [if_neg hd]
    have hn : n ≠ 0 := by
      intro e
      rw [e] at hd
      simp at hd
      omega
    refine ⟨by omega, by omega, ?_, by rw [Nat.add_zero]; omega⟩
    rw [Nat.add_zero]
    have e : 10 ^ n = 10 * 10 ^ (n - 1) := by
      rw [← Nat.pow_succ', show (n - 1).succ = n by omega]
    omega

theorem ndig_le (d : Nat) (h1 : d < 2 ^ 64) : ndig d ≤ 20 := by
  by_cases h0 : d = 0
  · subst h0; rw [ndig_zero]; omega
  · exact (ndig_ok d h0 h1).2.1

theorem ndig_lt (d : Nat) (h1 : d < 2 ^ 64) : d < 10 ^ ndig d := by
  by_cases h0 : d = 0
  · subst h0; rw [ndig_zero]; decide
  · exact (ndig_ok d h0 h1).2.2.2

/-- The digit at a place. -/
def dgt (u nd i : Nat) : Nat := 48 + u / 10 ^ (nd - 1 - i) % 10

theorem dgt_at {u nd k v : Nat} (hv : v = u / 10 ^ (nd - k)) (hk : k ≤ nd) {j i : Nat} (hj : j < k) (hi : i = k - 1 - j) : 48 + v / 10 ^ j % 10 = dgt u nd i := by
  subst hv; subst hi
  unfold dgt
  rw [Nat.div_div_eq_div_mul, ← Nat.pow_add, show nd - k + j = nd - 1 - (k - 1 - j) by omega]

theorem dgt_lt (u nd i : Nat) : dgt u nd i < 58 ∧ 48 ≤ dgt u nd i := by unfold dgt; omega

theorem pow8 {u nd k v : Nat} (hv : v = u / 10 ^ (nd - k)) (hk : k ≤ nd) (h8 : 8 ≤ k) : v / 100000000 = u / 10 ^ (nd - (k - 8)) := by
  subst hv
  rw [Nat.div_div_eq_div_mul, show (100000000 : Nat) = 10 ^ 8 by decide, ← Nat.pow_add, show nd - k + 8 = nd - (k - 8) by omega]

theorem rest_lt {u nd k v : Nat} (hv : v = u / 10 ^ (nd - k)) (hk : k ≤ nd) (hu : u < 10 ^ nd) : v < 10 ^ k := by
  subst hv
  rw [Nat.div_lt_iff_lt_mul (Nat.pow_pos (by decide)), ← Nat.pow_add, show k + (nd - k) = nd by omega]
  exact hu

/-- How many digits are left without the noughts at the end. -/
def strip (f : Nat → Nat) : Nat → Nat
  | 0 => 0
  | k + 1 => if f k = 48 then strip f k else k + 1

theorem strip_le (f : Nat → Nat) (k : Nat) : strip f k ≤ k := by
  induction k with
  | zero => exact Nat.le_refl _
  | succ k ih => unfold strip; split <;> omega
end Go.Proofs.YtlbhebmjdaaglaaGreatDoor.Ff
