/-
  The package's side on numbers: arguments as formulaArg, the list of arguments, results.
-/
import Derived.Test.YtlbhebmjdaaglaaGreatDoorI
import Derived.Test.YtlbhebmjdaaglaaGreatDoorL
namespace Go.Proofs.YtlbhebmjdaaglaaGreatDoor
set_option linter.unusedSimpArgs false
set_option linter.unusedVariables false
open Go Go.RowKit
set_option maxRecDepth 100000

/-- A formulaArg: of a number, an error, a text. -/
abbrev fnum (x : Nat) : Value := .agg #[.string ⟨#[]⟩, .float .f64 x, .string ⟨#[]⟩, .slice none 0 0, .slice none 0 0, .bool false, .string ⟨#[]⟩, .int .u8 1, .pointer none, .pointer none]
abbrev fbool (x : Nat) : Value := .agg #[.string ⟨#[]⟩, .float .f64 x, .string ⟨#[]⟩, .slice none 0 0, .slice none 0 0, .bool true, .string ⟨#[]⟩, .int .u8 1, .pointer none, .pointer none]
abbrev ferr (s m : ByteArray) : Value := .agg #[.string ⟨#[]⟩, .float .f64 0, .string s, .slice none 0 0, .slice none 0 0, .bool false, .string m, .int .u8 5, .pointer none, .pointer none]
abbrev fstr (s : ByteArray) : Value := .agg #[.string ⟨#[]⟩, .float .f64 0, .string s, .slice none 0 0, .slice none 0 0, .bool false, .string ⟨#[]⟩, .int .u8 2, .pointer none, .pointer none]

/-- A float that is a number, and 0 only as the word 0. -/
structure Tame (x : Nat) : Prop where
  self : FloatKind.f64.format.order x x = some Ordering.eq
  zero : FloatKind.f64.format.order x 0 = some Ordering.eq → x = 0

theorem order_f16 {a b : Int} (h1 : -2 ^ 53 < a) (h2 : a < 2 ^ 53) (h3 : -2 ^ 53 < b) (h4 : b < 2 ^ 53) : FloatKind.f64.format.order (f16 a) (f16 b) = some (compare a b) :=
  Fl.order_fx h1 h2 h3 h4 (by omega) (by omega)

theorem f16_zero : f16 0 = 0 := by decide

theorem cmp_eq {a b : Int} (h : a = b) : compare a b = Ordering.eq := by subst h; show compareOfLessAndEq a a = _; unfold compareOfLessAndEq; simp
theorem cmp_lt {a b : Int} (h : a < b) : compare a b = Ordering.lt := by show compareOfLessAndEq a b = _; unfold compareOfLessAndEq; rw [if_pos h]
theorem cmp_gt {a b : Int} (h : b < a) : compare a b = Ordering.gt := by
  show compareOfLessAndEq a b = _; unfold compareOfLessAndEq; rw [if_neg (by omega), if_neg (by omega)]

theorem tame_f16 {Z : Int} (h1 : -2 ^ 53 < Z) (h2 : Z < 2 ^ 53) : Tame (f16 Z) := by
  refine ⟨by rw [order_f16 h1 h2 h1 h2, cmp_eq rfl], fun h => ?_⟩
  rw [show (0 : Nat) = f16 0 from f16_zero.symm, order_f16 h1 h2 (by omega) (by omega)] at h
  rcases Int.lt_trichotomy Z 0 with hz | hz | hz
  · rw [cmp_lt hz] at h; cases h
  · rw [hz]; exact f16_zero
  · rw [cmp_gt hz] at h; cases h

set_option maxHeartbeats 400000 in
theorem isNaN_no (x : Nat) (w : World) (h : FloatKind.f64.format.order x x = some Ordering.eq) : Calls Tryz.prog 83 #[.float .f64 x] w (Gives w (.bool false)) := by
  go_enter Tryz.func83, Tryz.ntmps83
  go_wp2
  go_ret
  exact ⟨rfl, Ext.rf _⟩

set_option maxHeartbeats 400000 in
theorem newNumber_ok (x : Nat) (w : World) (h : Tame x) : Calls Tryz.prog 69 #[.float .f64 x] w (Gives w (fnum x)) := by
  have hs := h.self
  cases hz : (FloatKind.f64.format.order x 0 == some Ordering.eq)
  · have H := Lib.hid h; clear h
    go_enter Tryz.func69, Tryz.ntmps69
    go_wp2_with (go_at_call 83; refine (isNaN_no _ _ hs).mono ?_; rintro e w1 ⟨rfl, hb⟩; obtain ⟨hc, hf, hz⟩ := ext_facts hb; (try simp at hz); (try (have hq : w.heap.size < w1.heap.size := by omega)); (try (have hq' : w.heap.size ≤ w1.heap.size := by omega)); (try (have hr := fun o => hc w.heap.size o (by first | omega | (simp; done) | (simp; omega)))); (try (have hrf := fun o => hf w.heap.size o (by first | omega | (simp; done) | (simp; omega)))))
    exact bodyPost_ret (v := fnum x) (by simp [results, Tryz.results69, go_sem, *]) rfl ⟨rfl, (by repeat (first | with_reducible exact Below.refl _ _ | with_reducible assumption | ((with_reducible refine Below.setCell ?_ ?_ _); rotate_left; (simp; try omega)) | (with_reducible refine Ext.tr ?_ (by with_reducible assumption)) | (with_reducible refine Ext.al ?_ _) | (with_reducible refine below_drewN ?_ _) | (with_reducible refine Below.drew ?_)))⟩
  · have hx : x = 0 := h.zero (by simpa using hz)
    subst hx
    clear h
    go_enter Tryz.func69, Tryz.ntmps69
    go_wp2_with (go_at_call 83; refine (isNaN_no _ _ hs).mono ?_; rintro e w1 ⟨rfl, hb⟩; obtain ⟨hc, hf, hz⟩ := ext_facts hb; (try simp at hz); (try (have hq : w.heap.size < w1.heap.size := by omega)); (try (have hq' : w.heap.size ≤ w1.heap.size := by omega)); (try (have hr := fun o => hc w.heap.size o (by first | omega | (simp; done) | (simp; omega)))); (try (have hrf := fun o => hf w.heap.size o (by first | omega | (simp; done) | (simp; omega)))))
    exact bodyPost_ret (v := fnum 0) (by simp [results, Tryz.results69, go_sem, *]) rfl ⟨rfl, (by repeat (first | with_reducible exact Below.refl _ _ | with_reducible assumption | ((with_reducible refine Below.setCell ?_ ?_ _); rotate_left; (simp; try omega)) | (with_reducible refine Ext.tr ?_ (by with_reducible assumption)) | (with_reducible refine Ext.al ?_ _) | (with_reducible refine below_drewN ?_ _) | (with_reducible refine Below.drew ?_)))⟩

set_option maxHeartbeats 400000 in
theorem newError_any (s m : ByteArray) (w : World) : Calls Tryz.prog 54 #[.string s, .string m] w (Gives w (ferr s m)) := by
  go_enter Tryz.func54, Tryz.ntmps54
  go_wp2
  exact bodyPost_ret (v := ferr s m) (by simp [results, Tryz.results54, go_sem, *]) rfl ⟨rfl, (by repeat (first | with_reducible exact Below.refl _ _ | with_reducible assumption | ((with_reducible refine Below.setCell ?_ ?_ _); rotate_left; (simp; try omega)) | (with_reducible refine Ext.tr ?_ (by with_reducible assumption)) | (with_reducible refine Ext.al ?_ _) | (with_reducible refine below_drewN ?_ _) | (with_reducible refine Below.drew ?_)))⟩

set_option maxHeartbeats 400000 in
theorem innerArg_num (x : Nat) (w : World) (h : Tame x) : Calls Tryz.prog 60 #[.agg #[.int .i64 1, .float .f64 x, .string ⟨#[]⟩, .slice none 0 0]] w (Gives w (fnum x)) := by
  have H := Lib.hid h; clear h
  go_enter Tryz.func60, Tryz.ntmps60
  go_wp2_with (go_at_call 69; refine (newNumber_ok _ _ H.out).mono ?_; rintro e w1 ⟨rfl, hb⟩; obtain ⟨hc, hf, hz⟩ := ext_facts hb; (try simp at hz); (try (have hq : w.heap.size < w1.heap.size := by omega)); (try (have hq' : w.heap.size ≤ w1.heap.size := by omega)); (try (have hr := fun o => hc w.heap.size o (by first | omega | (simp; done) | (simp; omega)))); (try (have hrf := fun o => hf w.heap.size o (by first | omega | (simp; done) | (simp; omega)))))
  exact bodyPost_ret (v := fnum x) (by simp [results, Tryz.results60, go_sem, *]) rfl ⟨rfl, (by repeat (first | with_reducible exact Below.refl _ _ | with_reducible assumption | ((with_reducible refine Below.setCell ?_ ?_ _); rotate_left; (simp; try omega)) | (with_reducible refine Ext.tr ?_ (by with_reducible assumption)) | (with_reducible refine Ext.al ?_ _) | (with_reducible refine below_drewN ?_ _) | (with_reducible refine Below.drew ?_)))⟩

set_option maxHeartbeats 400000 in
theorem toNumber_num (x : Nat) (b : Bool) (w : World) (h : Tame x) : Calls Tryz.prog 61 #[.agg #[.string ⟨#[]⟩, .float .f64 x, .string ⟨#[]⟩, .slice none 0 0, .slice none 0 0, .bool b, .string ⟨#[]⟩, .int .u8 1, .pointer none, .pointer none]] w (Gives w (fnum x)) := by
  have H := Lib.hid h; clear h
  go_enter Tryz.func61, Tryz.ntmps61
  go_wp2_with (go_at_call 69; refine (newNumber_ok _ _ H.out).mono ?_; rintro e w1 ⟨rfl, hb⟩; obtain ⟨hc, hf, hz⟩ := ext_facts hb; (try simp at hz); (try (have hq : w.heap.size < w1.heap.size := by omega)); (try (have hq' : w.heap.size ≤ w1.heap.size := by omega)); (try (have hr := fun o => hc w.heap.size o (by first | omega | (simp; done) | (simp; omega)))); (try (have hrf := fun o => hf w.heap.size o (by first | omega | (simp; done) | (simp; omega)))))
  exact bodyPost_ret (v := fnum x) (by simp [results, Tryz.results61, go_sem, *]) rfl ⟨rfl, (by repeat (first | with_reducible exact Below.refl _ _ | with_reducible assumption | ((with_reducible refine Below.setCell ?_ ?_ _); rotate_left; (simp; try omega)) | (with_reducible refine Ext.tr ?_ (by with_reducible assumption)) | (with_reducible refine Ext.al ?_ _) | (with_reducible refine below_drewN ?_ _) | (with_reducible refine Below.drew ?_)))⟩

set_option maxHeartbeats 400000 in
theorem doorArg_num (x : Nat) (w : World) : Calls Tryz.prog 41 #[fnum x] w (Gives w (.agg #[.int .i64 1, .float .f64 x, .string ⟨#[]⟩, .slice none 0 0])) := by
  go_enter Tryz.func41, Tryz.ntmps41
  go_wp2
  exact bodyPost_ret (v := .agg #[.int .i64 1, .float .f64 x, .string ⟨#[]⟩, .slice none 0 0]) (by simp [results, Tryz.results41, go_sem, *]) rfl ⟨rfl, (by repeat (first | with_reducible exact Below.refl _ _ | with_reducible assumption | ((with_reducible refine Below.setCell ?_ ?_ _); rotate_left; (simp; try omega)) | (with_reducible refine Ext.tr ?_ (by with_reducible assumption)) | (with_reducible refine Ext.al ?_ _) | (with_reducible refine below_drewN ?_ _) | (with_reducible refine Below.drew ?_)))⟩

set_option maxHeartbeats 400000 in
theorem doorArg_bool (x : Nat) (w : World) : Calls Tryz.prog 41 #[fbool x] w (Gives w (.agg #[.int .i64 3, .float .f64 x, .string ⟨#[]⟩, .slice none 0 0])) := by
  go_enter Tryz.func41, Tryz.ntmps41
  go_wp2
  exact bodyPost_ret (v := .agg #[.int .i64 3, .float .f64 x, .string ⟨#[]⟩, .slice none 0 0]) (by simp [results, Tryz.results41, go_sem, *]) rfl ⟨rfl, (by repeat (first | with_reducible exact Below.refl _ _ | with_reducible assumption | ((with_reducible refine Below.setCell ?_ ?_ _); rotate_left; (simp; try omega)) | (with_reducible refine Ext.tr ?_ (by with_reducible assumption)) | (with_reducible refine Ext.al ?_ _) | (with_reducible refine below_drewN ?_ _) | (with_reducible refine Below.drew ?_)))⟩

set_option maxHeartbeats 400000 in
theorem doorArg_err (s m : ByteArray) (w : World) : Calls Tryz.prog 41 #[ferr s m] w (Gives w (.agg #[.int .i64 4, .float .f64 0, .string s, .slice none 0 0])) := by
  go_enter Tryz.func41, Tryz.ntmps41
  go_wp2
  exact bodyPost_ret (v := .agg #[.int .i64 4, .float .f64 0, .string s, .slice none 0 0]) (by simp [results, Tryz.results41, go_sem, *]) rfl ⟨rfl, (by repeat (first | with_reducible exact Below.refl _ _ | with_reducible assumption | ((with_reducible refine Below.setCell ?_ ?_ _); rotate_left; (simp; try omega)) | (with_reducible refine Ext.tr ?_ (by with_reducible assumption)) | (with_reducible refine Ext.al ?_ _) | (with_reducible refine below_drewN ?_ _) | (with_reducible refine Below.drew ?_)))⟩

set_option maxHeartbeats 400000 in
theorem doorFuncs_any (w : World) : Calls Tryz.prog 42 #[] w fun e w' => (∃ b, e = .returned (ptr b)) ∧ Ext w w' := by
  go_enter Tryz.func42, Tryz.ntmps42
  go_wp2
  go_ret
  exact ⟨⟨_, rfl⟩, (by repeat (first | with_reducible exact Below.refl _ _ | with_reducible assumption | ((with_reducible refine Below.setCell ?_ ?_ _); rotate_left; (simp; try omega)) | (with_reducible refine Ext.tr ?_ (by with_reducible assumption)) | (with_reducible refine Ext.al ?_ _) | (with_reducible refine below_drewN ?_ _) | (with_reducible refine Below.drew ?_)))⟩
end Go.Proofs.YtlbhebmjdaaglaaGreatDoor
