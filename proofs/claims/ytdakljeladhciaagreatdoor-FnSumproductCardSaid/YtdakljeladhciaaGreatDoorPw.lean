/-
  Products of words of sixteenths.
-/
import Derived.Test.YtdakljeladhciaaGreatDoorMq
import Derived.Test.YtdakljeladhciaaGreatDoorPm
namespace Go.Proofs.YtdakljeladhciaaGreatDoor
set_option linter.unusedSimpArgs false
set_option linter.unusedVariables false
open Go Go.RowKit
set_option maxRecDepth 100000

/-- The zero with a minus. -/
abbrev negZ : Nat := 9223372036854775808

theorem read_negz : Ieee.double.read negZ = .number true 0 (-1074) := by decide +kernel
theorem read_null : Ieee.double.read 0 = .number false 0 (-1074) := by decide +kernel

/-- The word of p sixteenths, or of no one with a minus. -/
def PW (W : Nat) (p : Int) : Prop := W = f16 p ∨ (p = 0 ∧ W = negZ)

theorem nearest_null (neg : Bool) (e : Int) : Ieee.double.nearest neg 0 e = 0 ∨ Ieee.double.nearest neg 0 e = negZ := by
  unfold Ieee.Format.nearest
  rw [if_pos rfl]
  cases neg
  · exact Or.inl (by decide +kernel)
  · exact Or.inr (by decide +kernel)

theorem mul_null_left {b q : Int} (h1 : -2 ^ 53 < b) (h2 : b < 2 ^ 53) (hq : -1000 ≤ q) (hq2 : q ≤ 900) : ∃ W, Ieee.double.mul 0 (Fl.fx q b) = some W ∧ PW W 0 := by
  obtain ⟨m, e, hr, _⟩ := Fl.read_fx (p := q) h1 h2 hq hq2
  unfold Ieee.Format.mul
  rw [hr, read_null]
  simp only [Ieee.Datum.product, Option.map_some, Ieee.Format.write, Nat.zero_mul]
  refine ⟨_, rfl, ?_⟩
  rcases nearest_null (false ^^ decide (b < 0)) (-1074 + e) with h | h
  · exact Or.inl (h.trans f16_zero.symm)
  · exact Or.inr ⟨rfl, h⟩

theorem mul_null_right {b q : Int} (h1 : -2 ^ 53 < b) (h2 : b < 2 ^ 53) (hq : -1000 ≤ q) (hq2 : q ≤ 900) : ∃ W, Ieee.double.mul (Fl.fx q b) 0 = some W ∧ PW W 0 := by
  obtain ⟨m, e, hr, _⟩ := Fl.read_fx (p := q) h1 h2 hq hq2
  unfold Ieee.Format.mul
  rw [hr, read_null]
  simp only [Ieee.Datum.product, Option.map_some, Ieee.Format.write, Nat.mul_zero]
  refine ⟨_, rfl, ?_⟩
  rcases nearest_null (decide (b < 0) ^^ false) (e + -1074) with h | h
  · exact Or.inl (h.trans f16_zero.symm)
  · exact Or.inr ⟨rfl, h⟩

theorem add_negz {a p : Int} (h1 : -2 ^ 53 < a) (h2 : a < 2 ^ 53) (hp : -1000 ≤ p) (hp2 : p ≤ 900) : Ieee.double.add (Fl.fx p a) negZ = some (Fl.fx p a) := by
  obtain ⟨m, e, hr, he, hlo, _, hm⟩ := Fl.read_fx h1 h2 hp hp2
  unfold Ieee.Format.add
  rw [hr, read_negz]
  simp only [Ieee.Datum.sum, Option.map_some, Ieee.Format.write]
  have hmin : min e (-1074) ≤ p := by omega
  have hs0 : ∀ k, Ieee.signed true 0 k = 0 := fun k => by unfold Ieee.signed; simp
  rw [Fl.signed_eq hm he (by omega), hs0, Int.add_zero]
  congr 1
  have hpos : (0 : Int) < 2 ^ (p - min e (-1074)).toNat := Int.pow_pos (by decide)
  by_cases h0 : a = 0
  · subst h0
    rw [Int.zero_mul, if_pos rfl]
    simp [Ieee.Format.nearest, Fl.fx]
  · have hne : a * 2 ^ (p - min e (-1074)).toNat ≠ 0 := by
      intro h; rcases Int.mul_eq_zero.1 h with h | h <;> omega
    rw [if_neg hne]
    have hneg : decide (a * 2 ^ (p - min e (-1074)).toNat < 0) = decide (a < 0) := by
      by_cases hn : a < 0
      · have := Int.mul_neg_of_neg_of_pos hn hpos; simp [hn, this]
      · have : 0 ≤ a * 2 ^ (p - min e (-1074)).toNat := Int.mul_nonneg (by omega) (by omega)
        have h' : ¬ a * 2 ^ (p - min e (-1074)).toNat < 0 := by omega
        simp [hn, h']
    rw [hneg]
    apply Fl.nearest_int h1 h2 hmin hp hp2
    rw [Int.natAbs_mul]; push_cast; congr 1

theorem add_pw {S p : Int} {W : Nat} (h : PW W p) (h1 : -2 ^ 52 < S) (h2 : S < 2 ^ 52) (h3 : -2 ^ 52 < p) (h4 : p < 2 ^ 52) : Ieee.double.add (f16 S) W = some (f16 (S + p)) := by
  rcases h with rfl | ⟨rfl, rfl⟩
  · exact Fl.add_fx (by omega) (by omega) (by omega) (by omega) (by omega) (by omega) (by omega) (by omega)
  · rw [Int.add_zero]; exact add_negz (by omega) (by omega) (by omega) (by omega)

theorem den_two {d : Int} (h : Den d) : ∃ j : Nat, j ≤ 4 ∧ 16 / d = 2 ^ j := by
  rcases h with rfl | rfl | rfl | rfl | rfl
  · exact ⟨4, by omega, by decide⟩
  · exact ⟨3, by omega, by decide⟩
  · exact ⟨2, by omega, by decide⟩
  · exact ⟨1, by omega, by decide⟩
  · exact ⟨0, by omega, by decide⟩

theorem f16_num {n : Int} {j : Nat} (hj : j ≤ 4) (h1 : -99999999999 ≤ n) (h2 : n ≤ 99999999999) : f16 (n * 2 ^ j) = Fl.fx (-4 + j) n := by
  have hb : -1599999999984 ≤ n * 2 ^ j ∧ n * 2 ^ j ≤ 1599999999984 := by
    rcases (show j = 0 ∨ j = 1 ∨ j = 2 ∨ j = 3 ∨ j = 4 by omega) with rfl | rfl | rfl | rfl | rfl <;> constructor <;> omega
  exact Fl.fx_shift j (by omega) (by omega) (by omega) (by omega)

/-- A product of which the reference says something is exact. -/
theorem mul_f16 {x y : Sc} (hx : NumK x) (hy : NumK y) (x1 : -16777216 ≤ x.n) (x2 : x.n ≤ 16777216) (y1 : -16777216 ≤ y.n) (y2 : y.n ≤ 16777216) {p : Int} (hp : p * 16 = six x * six y)
    (p1 : -1599999999984 ≤ p) (p2 : p ≤ 1599999999984) : ∃ W, Ieee.double.mul (f16 (six x)) (f16 (six y)) = some W ∧ PW W p := by
  obtain ⟨i, hi, ei⟩ := den_two hx.den
  obtain ⟨j, hj, ej⟩ := den_two hy.den
  unfold six at hp ⊢
  rw [ei, ej] at hp ⊢
  rw [f16_num hi (by omega) (by omega), f16_num hj (by omega) (by omega)]
  generalize x.n = a at x1 x2 hp ⊢
  generalize y.n = b at y1 y2 hp ⊢
  by_cases ha : a = 0
  · subst ha
    have : p = 0 := by rw [Int.zero_mul, Int.zero_mul] at hp; omega
    subst this
    rw [show Fl.fx (-4 + i) 0 = 0 by unfold Fl.fx; simp [Ieee.Format.nearest]; decide +kernel]
    exact mul_null_left (by omega) (by omega) (by omega) (by omega)
  by_cases hb : b = 0
  · subst hb
    have : p = 0 := by rw [Int.zero_mul, Int.mul_zero] at hp; omega
    subst this
    rw [show Fl.fx (-4 + j) 0 = 0 by unfold Fl.fx; simp [Ieee.Format.nearest]; decide +kernel]
    exact mul_null_right (by omega) (by omega) (by omega) (by omega)
  have hab : -281474976710656 ≤ a * b ∧ a * b ≤ 281474976710656 := by
    have h := Nat.mul_le_mul (show a.natAbs ≤ 16777216 by omega) (show b.natAbs ≤ 16777216 by omega)
    rw [← Int.natAbs_mul] at h
    omega
  have hm := Fl.mul_fx (a := a) (b := b) (p := -4 + i) (q := -4 + j) (by omega) (by omega) (by omega) (by omega) (by omega) (by omega) ha hb (by omega) (by omega) (by omega) (by omega)
  refine ⟨_, hm, Or.inl ?_⟩
  have hp' : p * 16 = a * b * 2 ^ (i + j) := by rw [hp, Int.pow_add, mul4]
  show Fl.fx (-4 + i + (-4 + j)) (a * b) = Fl.fx (-4) p
  generalize a * b = N at hp' hab ⊢
  by_cases hij : 4 ≤ i + j
  · obtain ⟨k, hk⟩ : ∃ k, i + j = k + 4 := ⟨i + j - 4, by omega⟩
    have e : p = N * 2 ^ k := by
      rw [hk, Int.pow_add, ← Int.mul_assoc] at hp'
      generalize N * 2 ^ k = Q at hp' ⊢
      omega
    have hs := Fl.fx_shift (n := N) (p := -4) k (by omega) (by omega) (by omega) (by omega)
    rw [e, hs]
    congr 1; omega
  · obtain ⟨k, hk⟩ : ∃ k, i + j + k = 4 := ⟨4 - (i + j), by omega⟩
    have e : N = p * 2 ^ k := by
      have h16 : (16 : Int) = 2 ^ k * 2 ^ (i + j) := by rw [← Int.pow_add, show k + (i + j) = 4 by omega]; decide
      rw [h16, ← Int.mul_assoc] at hp'
      exact (Int.eq_of_mul_eq_mul_right (Int.ne_of_gt (Int.pow_pos (by decide))) hp').symm
    have hs := Fl.fx_shift (n := p) (p := -4 + i + (-4 + j)) k (by omega) (by omega) (by omega) (by omega)
    rw [e, hs]
    congr 1; omega

/-- 1 times a number. -/
theorem mul_one_f16 {z : Int} (h1 : -1599999999984 ≤ z) (h2 : z ≤ 1599999999984) : Ieee.double.mul 4607182418800017408 (f16 z) = some (f16 z) := by
  by_cases hz : z = 0
  · subst hz; decide +kernel
  · have h := Fl.mul_fx (a := 1) (b := z) (p := 0) (q := -4) (by omega) (by omega) (by omega) (by omega) (by omega) (by omega) (by omega) hz (by omega) (by omega) (by omega) (by omega)
    rw [show (4607182418800017408 : Nat) = Fl.fx 0 1 from fx_one.symm]
    rw [Int.one_mul] at h
    exact h

theorem rect_len {α : Type} {C : Nat} : ∀ {rows : List (List α)}, (∀ row ∈ rows, row.length = C) → rows.flatten.length = rows.length * C
  | [], _ => by simp
  | r :: rows, h => by
    rw [List.flatten_cons, List.length_append, rect_len (fun row hr => h row (List.mem_cons_of_mem _ hr)), h r (List.mem_cons_self ..), List.length_cons, Nat.add_mul]
    omega

theorem rect_at {α : Type} {C : Nat} : ∀ {rows : List (List α)}, (∀ row ∈ rows, row.length = C) → ∀ {q j : Nat} {row : List α}, rows[q]? = some row → j < C → rows.flatten[q * C + j]? = row[j]?
  | [], _, q, j, row, hq, _ => by simp at hq
  | r :: rows, h, 0, j, row, hq, hj => by
    have e : r = row := by simpa using hq
    subst e
    rw [Nat.zero_mul, Nat.zero_add, List.flatten_cons, List.getElem?_append_left (by rw [h r (List.mem_cons_self ..)]; exact hj)]
  | r :: rows, h, q + 1, j, row, hq, hj => by
    have hr := h r (List.mem_cons_self ..)
    rw [List.flatten_cons, List.getElem?_append_right (by rw [hr, Nat.add_mul]; omega), hr, show (q + 1) * C + j - C = q * C + j by rw [Nat.add_mul]; omega]
    exact rect_at (fun row hr => h row (List.mem_cons_of_mem _ hr)) (by simpa using hq) hj

/-- The place of a number in rows of one length. -/
theorem rect_get {α : Type} {C : Nat} {rows : List (List α)} (h : ∀ row ∈ rows, row.length = C) (hC : 0 < C) {i : Nat} (hi : i < rows.length * C) :
    ∃ row x, rows[i / C]? = some row ∧ row[i % C]? = some x ∧ rows.flatten[i]? = some x := by
  have hq : i / C < rows.length := (Nat.div_lt_iff_lt_mul hC).2 hi
  have hj : i % C < C := Nat.mod_lt _ hC
  obtain ⟨row, hr⟩ : ∃ row, rows[i / C]? = some row := ⟨_, List.getElem?_eq_getElem hq⟩
  have hrl := h row (List.mem_of_getElem? hr)
  obtain ⟨x, hx⟩ : ∃ x, row[i % C]? = some x := ⟨_, List.getElem?_eq_getElem (by omega)⟩
  refine ⟨row, x, hr, hx, ?_⟩
  have := rect_at h hr hj
  rw [show i / C * C + i % C = i by rw [Nat.mul_comm]; exact Nat.div_add_mod i C] at this
  rw [this, hx]
end Go.Proofs.YtdakljeladhciaaGreatDoor
