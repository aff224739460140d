/-
  The greatest one of words of sixteenths, where nothing is the least number of all.
-/
import Derived.Test.YtbehdafigmlnfaaGreatDoorMq
namespace Go.Proofs.YtbehdafigmlnfaaGreatDoor
set_option linter.unusedSimpArgs false
set_option linter.unusedVariables false
open Go Go.RowKit
set_option maxRecDepth 100000

/-- The least number of all. -/
abbrev lowW : Nat := 18442240474082181119

theorem read_low : Ieee.double.read lowW = .number true (2 ^ 53 - 1) 971 := by decide +kernel

theorem order_low {z : Int} (h1 : -2 ^ 53 < z) (h2 : z < 2 ^ 53) : FloatKind.f64.format.order (f16 z) lowW = some Ordering.gt := by
  obtain ⟨m, e, hr, he, hlo, _, hm⟩ := Fl.read_fx (n := z) (p := -4) h1 h2 (by omega) (by omega)
  show Ieee.double.order (Fl.fx (-4) z) lowW = _
  unfold Ieee.Format.order
  rw [hr, read_low]
  simp only [Ieee.Datum.order]
  have hmin : min e 971 = e := by omega
  rw [hmin]
  rw [Fl.signed_eq hm he (Int.le_refl e)]
  refine congrArg some (cmp_gt ?_)
  have hpos : (0 : Int) < 2 ^ (-4 - e).toNat := Int.pow_pos (by decide)
  have hge : (2 : Int) ^ (971 - e).toNat = 2 ^ (-4 - e).toNat * 2 ^ 975 := by rw [← Int.pow_add]; congr 1; omega
  have hq : (0 : Int) < 2 ^ 975 := Int.pow_pos (by decide)
  have hc : (((2 ^ 53 - 1) * 2 ^ (971 - e).toNat : Nat) : Int) = (2 ^ 53 - 1) * (2 : Int) ^ (971 - e).toNat := by
    generalize (971 - e).toNat = k
    rw [Int.natCast_mul, Int.natCast_pow]; rfl
  unfold Ieee.signed
  rw [if_pos rfl, Fl.shl_eq, hc, hge]
  generalize (2 : Int) ^ (-4 - e).toNat = P at hpos ⊢
  have hq2 : (2 : Int) ≤ 2 ^ 975 := by rw [Int.pow_succ]; have : (0 : Int) < 2 ^ 974 := Int.pow_pos (by decide); generalize (2 : Int) ^ 974 = R at this ⊢; omega
  generalize (2 : Int) ^ 975 = Q at hq hq2 ⊢
  have h3 : -(2 ^ 53 - 1) * P ≤ z * P := Int.mul_le_mul_of_nonneg_right (by omega) (by omega)
  have h4 : P * 2 ≤ P * Q := Int.mul_le_mul_of_nonneg_left hq2 (by omega)
  generalize P * Q = R at h4 ⊢
  omega

theorem order_low_self : FloatKind.f64.format.order lowW lowW = some Ordering.eq := by decide +kernel

/-- The greater one. -/
def mxo (m z : Option Int) : Option Int := match z with
  | none => m
  | some z => match m with
    | none => some z
    | some m => some (if m < z then z else m)

def mw (m : Option Int) : Nat := match m with
  | none => lowW
  | some z => f16 z

/-- Whether a number comes in the place of the greatest one so far. -/
def ups (m : Option Int) (z : Int) : Bool := match m with
  | none => true
  | some m => decide (m < z)

def bnd (m : Option Int) : Prop := ∀ z, m = some z → -1599999999984 ≤ z ∧ z ≤ 1599999999984

theorem order_mw {m : Option Int} {z : Int} (hm : bnd m) (h1 : -1599999999984 ≤ z) (h2 : z ≤ 1599999999984) : (FloatKind.f64.format.order (f16 z) (mw m) == some Ordering.gt) = ups m z := by
  cases m with
  | none => unfold mw ups; rw [order_low (by omega) (by omega)]; rfl
  | some m =>
    obtain ⟨q1, q2⟩ := hm m rfl
    unfold mw ups
    simp only
    rw [order_f16 (by omega) (by omega) (by omega) (by omega)]
    rcases Int.lt_trichotomy z m with h | h | h
    · rw [cmp_lt h, decide_eq_false (by omega)]; rfl
    · rw [cmp_eq h, decide_eq_false (by omega)]; rfl
    · rw [cmp_gt h, decide_eq_true h]; rfl

theorem mw_up {m : Option Int} {z : Int} (h : ups m z = true) : mxo m (some z) = some z := by
  cases m with
  | none => rfl
  | some m =>
    unfold ups at h
    unfold mxo
    simp only at h ⊢
    rw [if_pos (of_decide_eq_true h)]

theorem mw_stay {m : Option Int} {z : Int} (h : ups m z = false) : mxo m (some z) = m := by
  cases m with
  | none => cases h
  | some m =>
    unfold ups at h
    unfold mxo
    simp only at h ⊢
    rw [if_neg (of_decide_eq_false h)]

theorem bnd_mxo {m z : Option Int} (h1 : bnd m) (h2 : bnd z) : bnd (mxo m z) := by
  intro y hy
  cases z with
  | none => exact h1 y hy
  | some z =>
    cases hu : ups m z with
    | true => rw [mw_up hu] at hy; exact h2 y hy
    | false => rw [mw_stay hu] at hy; exact h1 y hy

/-- The greatest one of what values give. -/
def maxI {α : Type} (zf : α → Option Int) (xs : List α) (m : Option Int) : Option Int := xs.foldl (fun m x => mxo m (zf x)) m

theorem maxI_take {α : Type} (zf : α → Option Int) {xs : List α} {k : Nat} {x : α} (m : Option Int) (h : Hid (xs[k]? = some x)) : maxI zf (xs.take (k + 1)) m = mxo (maxI zf (xs.take k) m) (zf x) := by
  unfold maxI
  rw [take_succ_at h, List.foldl_append]
  rfl

theorem maxI_bnd {α : Type} (zf : α → Option Int) (xs : List α) (m : Option Int) (hm : bnd m) (h : ∀ x ∈ xs, bnd (zf x)) : bnd (maxI zf xs m) := by
  induction xs generalizing m with
  | nil => exact hm
  | cons x xs ih => exact ih _ (bnd_mxo hm (h x (List.mem_cons_self ..))) fun y hy => h y (List.mem_cons_of_mem _ hy)

theorem mxo_spec (m z : Option Int) : (mxo m z = none → m = none ∧ z = none) ∧ ∀ r, mxo m z = some r → (m = some r ∨ z = some r) ∧ (∀ y, m = some y → y ≤ r) ∧ ∀ y, z = some y → y ≤ r := by
  cases z with
  | none => exact ⟨fun h => ⟨h, rfl⟩, fun r h => ⟨Or.inl h, fun y hy => (by rw [show mxo m none = m from rfl] at h; rw [h] at hy; cases hy; exact Int.le_refl _), fun y hy => (by cases hy)⟩⟩
  | some z =>
    cases m with
    | none => exact ⟨fun h => (by cases h), fun r h => ⟨Or.inr h, fun y hy => (by cases hy), fun y hy => by have : z = r := Option.some.inj h; have : z = y := Option.some.inj hy; omega⟩⟩
    | some m =>
      refine ⟨fun h => (by cases h), fun r h => ?_⟩
      have e : (if m < z then z else m) = r := Option.some.inj h
      split at e
      · exact ⟨Or.inr (by rw [e]), fun y hy => (by have := Option.some.inj hy; omega), fun y hy => by have := Option.some.inj hy; omega⟩
      · exact ⟨Or.inl (by rw [e]), fun y hy => (by have := Option.some.inj hy; omega), fun y hy => by have := Option.some.inj hy; omega⟩

theorem maxI_spec {α : Type} (zf : α → Option Int) (xs : List α) (m : Option Int) :
    (maxI zf xs m = none → m = none ∧ ∀ x ∈ xs, zf x = none) ∧ ∀ r, maxI zf xs m = some r → (m = some r ∨ ∃ x ∈ xs, zf x = some r) ∧ (∀ y, m = some y → y ≤ r) ∧ ∀ x ∈ xs, ∀ y, zf x = some y → y ≤ r := by
  induction xs generalizing m with
  | nil => exact ⟨fun h => ⟨h, by simp⟩, fun r h => ⟨Or.inl h, fun y hy => (by rw [show maxI zf [] m = m from rfl] at h; rw [h] at hy; have := Option.some.inj hy; omega), by simp⟩⟩
  | cons x xs ih =>
    obtain ⟨i1, i2⟩ := ih (mxo m (zf x))
    obtain ⟨s1, s2⟩ := mxo_spec m (zf x)
    refine ⟨fun h => ?_, fun r h => ?_⟩
    · obtain ⟨a1, a2⟩ := i1 h
      obtain ⟨b1, b2⟩ := s1 a1
      exact ⟨b1, fun y hy => by rcases List.mem_cons.1 hy with rfl | hy; exact b2; exact a2 y hy⟩
    · obtain ⟨a1, a2, a3⟩ := i2 r h
      have hle : ∀ q, mxo m (zf x) = some q → q ≤ r := a2
      have hup : (∀ y, m = some y → y ≤ r) ∧ ∀ y, zf x = some y → y ≤ r := by
        cases hq : mxo m (zf x) with
        | none =>
          obtain ⟨b1, b2⟩ := s1 hq
          exact ⟨fun y hy => (by rw [b1] at hy; cases hy), fun y hy => (by rw [b2] at hy; cases hy)⟩
        | some q =>
          obtain ⟨_, c2, c3⟩ := s2 q hq
          have := hle q hq
          exact ⟨fun y hy => (by have := c2 y hy; omega), fun y hy => (by have := c3 y hy; omega)⟩
      refine ⟨?_, hup.1, fun y hy z hz => ?_⟩
      · rcases a1 with a1 | ⟨y, hy, hz⟩
        · rcases (s2 r a1).1 with h | h
          · exact Or.inl h
          · exact Or.inr ⟨x, List.mem_cons_self .., h⟩
        · exact Or.inr ⟨y, List.mem_cons_of_mem _ hy, hz⟩
      · rcases List.mem_cons.1 hy with rfl | hy
        · exact hup.2 z hz
        · exact a3 y hy z hz

theorem maxI_append {α : Type} (zf : α → Option Int) (xs ys : List α) (m : Option Int) : maxI zf (xs ++ ys) m = maxI zf ys (maxI zf xs m) := List.foldl_append
end Go.Proofs.YtbehdafigmlnfaaGreatDoor
