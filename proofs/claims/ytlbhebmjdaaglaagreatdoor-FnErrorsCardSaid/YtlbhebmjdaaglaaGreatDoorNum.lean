/-
  Numbers as formulaArg; truths.
-/
import Derived.Test.YtlbhebmjdaaglaaGreatDoorK
import Derived.Test.YtlbhebmjdaaglaaGreatDoorAs
namespace Go.Proofs.YtlbhebmjdaaglaaGreatDoor
set_option linter.unusedSimpArgs false
set_option linter.unusedVariables false
open Go Go.RowKit
set_option maxRecDepth 100000

/-- The cells of a number as formulaArg. -/
abbrev fnumC (x : Nat) : Array Value := #[.string ⟨#[]⟩, .float .f64 x, .string ⟨#[]⟩, .slice none 0 0, .slice none 0 0, .bool false, .string ⟨#[]⟩, .int .u8 1, .pointer none, .pointer none]

theorem one_f16 : (4607182418800017408 : Nat) = f16 16 := by decide
theorem mone_f16 : (13830554455654793216 : Nat) = f16 (-16) := by decide
theorem tame_zero : Tame 0 := by rw [← f16_zero]; exact tame_f16 (by omega) (by omega)
theorem tame_one : Tame 4607182418800017408 := by rw [one_f16]; exact tame_f16 (by omega) (by omega)
theorem tame_mone : Tame 13830554455654793216 := by rw [mone_f16]; exact tame_f16 (by omega) (by omega)

theorem order_zero {Z : Int} (h1 : -2 ^ 53 < Z) (h2 : Z < 2 ^ 53) : FloatKind.f64.format.order (f16 Z) 0 = some (compare Z 0) := by
  rw [show (0 : Nat) = f16 0 from f16_zero.symm]; exact order_f16 h1 h2 (by omega) (by omega)

set_option maxHeartbeats 400000 in
theorem newBool_true (w : World) : Calls Tryz.prog 57 #[.bool true] w (Gives w (fbool 4607182418800017408)) := by
  go_enter Tryz.func57, Tryz.ntmps57
  go_wp2
  exact bodyPost_ret (v := fbool 4607182418800017408) (by simp [results, Tryz.results57, go_sem, *]) rfl ⟨rfl, (by repeat (first | with_reducible exact Below.refl _ _ | with_reducible assumption | ((with_reducible refine Below.setCell ?_ ?_ _); rotate_left; (simp; try omega)) | (with_reducible refine Ext.tr ?_ (by with_reducible assumption)) | (with_reducible refine Ext.al ?_ _) | (with_reducible refine below_drewN ?_ _) | (with_reducible refine Below.drew ?_)))⟩

set_option maxHeartbeats 400000 in
theorem newBool_false (w : World) : Calls Tryz.prog 57 #[.bool false] w (Gives w (fbool 0)) := by
  go_enter Tryz.func57, Tryz.ntmps57
  go_wp2
  exact bodyPost_ret (v := fbool 0) (by simp [results, Tryz.results57, go_sem, *]) rfl ⟨rfl, (by repeat (first | with_reducible exact Below.refl _ _ | with_reducible assumption | ((with_reducible refine Below.setCell ?_ ?_ _); rotate_left; (simp; try omega)) | (with_reducible refine Ext.tr ?_ (by with_reducible assumption)) | (with_reducible refine Ext.al ?_ _) | (with_reducible refine below_drewN ?_ _) | (with_reducible refine Below.drew ?_)))⟩

/-- The value of the thin package as a number. -/
abbrev ivn (x : Nat) : Iv := ⟨1, x, ⟨#[]⟩⟩

theorem inner_ivn (x : Iv) (xs : List Iv) (hk : ∀ y ∈ xs, y = ivn y.f ∧ Tame y.f) (w' : World) (hm : x ∈ xs) : Calls Tryz.prog 60 #[x.val] w' (Gives w' (.agg (fnumC x.f))) := by
  obtain ⟨e, ht⟩ := hk x hm
  rw [e]
  exact innerArg_num x.f w' ht

/-- A number of the reference as the thin package has it. -/
def gnum (x : Sc) : Iv := ivn (f16 (x.n * (16 / x.d)))

/-- A number of the reference, from a law's argument. -/
structure NumK (x : Sc) : Prop where
  k : x.k = 1
  den : Den x.d
  lo : -99999999999 ≤ x.n
  hi : x.n ≤ 99999999999

theorem den_bound {n d Z : Int} (hd : Den d) (hZ : n * (16 / d) = Z) (h1 : -99999999999 ≤ n) (h2 : n ≤ 99999999999) : -2 ^ 50 < Z ∧ Z < 2 ^ 50 := by
  rcases hd with rfl | rfl | rfl | rfl | rfl
  · have : n * 16 = Z := hZ; omega
  · have : n * 8 = Z := hZ; omega
  · have : n * 4 = Z := hZ; omega
  · have : n * 2 = Z := hZ; omega
  · have : n * 1 = Z := hZ; omega

theorem NumK.bound {x : Sc} (h : NumK x) : -2 ^ 50 < x.n * (16 / x.d) ∧ x.n * (16 / x.d) < 2 ^ 50 := den_bound h.den rfl h.lo h.hi

theorem of_numK (x : Sc) (h : NumK x) (ht : x.t = ⟨#[]⟩) (w : World) : Calls Tryz.prog 40 #[x.val] w (Gives w (gnum x).val) := by
  obtain ⟨k, n, d, t⟩ := x
  have hk : k = 1 := h.k
  simp only at ht
  subst hk ht
  exact of_num n d _ w h.den rfl h.lo h.hi

theorem f16_whole {n : Int} (h1 : -2 ^ 49 < n) (h2 : n < 2 ^ 49) : f16 (16 * n) = Fl.fx 0 n := by
  have h := Fl.fx_shift (n := n) (p := -4) 4 (by omega) (by omega) (by omega) (by omega)
  rw [show n * 2 ^ 4 = 16 * n by omega] at h
  rw [show f16 (16 * n) = Fl.fx (-4) (16 * n) from rfl, h]
  rfl

theorem order_fx0 {a b : Int} (h1 : -2 ^ 53 < a) (h2 : a < 2 ^ 53) (h3 : -2 ^ 53 < b) (h4 : b < 2 ^ 53) : FloatKind.f64.format.order (Fl.fx 0 a) (Fl.fx 0 b) = some (compare a b) :=
  Fl.order_fx h1 h2 h3 h4 (by omega) (by omega)

theorem tame_fx0 {n : Int} (h1 : -2 ^ 49 < n) (h2 : n < 2 ^ 49) : Tame (Fl.fx 0 n) := by
  rw [← f16_whole h1 h2]; exact tame_f16 (by omega) (by omega)

set_option maxHeartbeats 400000 in
theorem of_err (t : ByteArray) (w : World) : Calls Tryz.prog 40 #[errv t] w (Gives w (Iv.val ⟨4, 0, t⟩)) := by
  go_enter Tryz.func40, Tryz.ntmps40
  go_wp2
  exact bodyPost_ret (v := Iv.val ⟨4, 0, t⟩) (by simp [results, Tryz.results40, go_sem, *]) rfl ⟨rfl, (by repeat (first | with_reducible exact Below.refl _ _ | with_reducible assumption | ((with_reducible refine Below.setCell ?_ ?_ _); rotate_left; (simp; try omega)) | (with_reducible refine Ext.tr ?_ (by with_reducible assumption)) | (with_reducible refine Ext.al ?_ _) | (with_reducible refine below_drewN ?_ _) | (with_reducible refine Below.drew ?_)))⟩

/-- What a law's argument is: a number, or a value of which nothing is said. -/
def ArgOk (Z : Int) (x : Sc) : Prop := (NumK x ∧ x.t = ⟨#[]⟩ ∧ x.n * (16 / x.d) = Z) ∨ x = ⟨6, 0, 0, ⟨#[]⟩⟩

theorem ArgOk.kind {Z : Int} {x : Sc} (h : ArgOk Z x) : x.k = 1 ∨ x.k = 6 := by
  rcases h with h | rfl
  · exact Or.inl h.1.k
  · exact Or.inr rfl

theorem NumOr.sc {w w' : World} {Z : Int} {e : Ending} (h : NumOr w Z e w') : ∃ x : Sc, e = .returned x.val ∧ ArgOk Z x ∧ Ext w w' := by
  obtain ⟨h, hb⟩ := h
  rcases h with ⟨n', d', rfl, hd, hZ, q1, q2⟩ | rfl
  · exact ⟨⟨1, n', d', ⟨#[]⟩⟩, rfl, Or.inl ⟨⟨rfl, hd, q1, q2⟩, rfl, hZ⟩, hb⟩
  · exact ⟨⟨6, 0, 0, ⟨#[]⟩⟩, rfl, Or.inr rfl, hb⟩
end Go.Proofs.YtlbhebmjdaaglaaGreatDoor
