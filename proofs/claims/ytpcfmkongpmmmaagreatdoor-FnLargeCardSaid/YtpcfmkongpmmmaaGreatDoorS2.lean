/-
  SIGN: the reference's dispatch.
-/
import Derived.Test.YtpcfmkongpmmmaaGreatDoorSign
namespace Go.Proofs.YtpcfmkongpmmmaaGreatDoor
set_option linter.unusedSimpArgs false
set_option linter.unusedVariables false
open Go Go.RowKit
set_option maxRecDepth 100000

/-- A value that numeric knows at once: a number (true), or one that is none (false). -/
def numericOf (x : Sc) : Bool := x.k == 1

theorem numeric_at (x : Sc) (w : World) (h : x.k = 1 ∨ x.k = 6) : Calls Tryz.prog 126 #[x.val] w (Gives w (.bool (numericOf x))) := by
  rcases x with ⟨k, n, d, t⟩
  rcases h with h | h
  · simp only at h; subst h; exact numeric_num n d t w
  · simp only at h; subst h; exact numeric_not 6 n d t w (by simp)

theorem every_numeric (xs : List Sc) (b o c : Nat) (w : World) (hl : xs.length ≤ 1000000000) (hx : Lie w b o xs) (h : ∀ x ∈ xs, x.k = 1 ∨ x.k = 6) :
    Calls Tryz.prog 125 #[.slice (some ⟨b, o, none⟩) xs.length c, .func (.func 126) #[] #[]] w (Gives w (.bool (xs.all numericOf))) :=
  every_ok numericOf xs b o c w hl hx 126 (fun args w => Tryz.call126 args w) fun x w' hm _ => numeric_at x w' (h x hm)

set_option maxHeartbeats 800000 in
theorem fitsNumbers_sign (xs : List Sc) (b o c : Nat) (w : World) (hl : xs.length = 1) (hx : Lie w b o xs) (h : ∀ x ∈ xs, x.k = 1 ∨ x.k = 6) :
    Calls Tryz.prog 45 #[.string ⟨#[83, 73, 71, 78]⟩, .slice (some ⟨b, o, none⟩) 1 c] w (Gives w (.tuple #[.bool (xs.all numericOf), .bool true])) := by
  have hc1 := every_numeric xs b o c w (by rw [hl]; decide) hx h
  rw [hl] at hc1
  have HC := Lib.hid hc1; clear hl hx h hc1
  generalize xs.all numericOf = r at HC ⊢
  cases r
  all_goals
    go_enter Tryz.func45, Tryz.ntmps45
    go_wp2_with fail
    refine HC.out.mono ?_
    rintro e w1 ⟨rfl, hb⟩
    go_wp2
    go_ret2
    exact ⟨rfl, hb⟩

set_option maxHeartbeats 800000 in
theorem fits_sign (xs : List Sc) (b o c : Nat) (w : World) (hl : xs.length = 1) (hx : Lie w b o xs) (h : ∀ x ∈ xs, x.k = 1 ∨ x.k = 6) :
    Calls Tryz.prog 32 #[.string ⟨#[83, 73, 71, 78]⟩, .slice (some ⟨b, o, none⟩) 1 c] w (Gives w (.bool (xs.all numericOf))) := by
  have HC := Lib.hid (fitsNumbers_sign xs b o c w hl hx h); clear hl hx h
  generalize xs.all numericOf = r at HC ⊢
  cases r
  all_goals
    go_enter Tryz.func32, Tryz.ntmps32
    go_wp2_with fail
    refine HC.out.mono ?_
    rintro e w1 ⟨rfl, hb⟩
    go_wp2
    go_ret
    exact ⟨rfl, hb⟩

set_option maxHeartbeats 800000 in
theorem stat_sign (a : Option Addr) (n c : Nat) (w : World) : Calls Tryz.prog 33 #[.string ⟨#[83, 73, 71, 78]⟩, .slice a n c] w (Gives w (.tuple #[zeroVal, .bool false])) := by
  go_enter Tryz.func33, Tryz.ntmps33
  go_wp2
  exact bodyPost_ret (v := .tuple #[zeroVal, .bool false]) (by simp [results, Tryz.results33, go_sem, *]) rfl ⟨rfl, (by repeat (first | with_reducible exact Below.refl _ _ | with_reducible assumption | ((with_reducible refine Below.setCell ?_ ?_ _); rotate_left; (simp; try omega)) | (with_reducible refine Ext.tr ?_ (by with_reducible assumption)) | (with_reducible refine Ext.al ?_ _) | (with_reducible refine below_drewN ?_ _) | (with_reducible refine Below.drew ?_)))⟩

set_option maxHeartbeats 800000 in
theorem criteria_sign (a : Option Addr) (n c : Nat) (w : World) : Calls Tryz.prog 34 #[.string ⟨#[83, 73, 71, 78]⟩, .slice a n c] w (Gives w (.tuple #[zeroVal, .bool false])) := by
  go_enter Tryz.func34, Tryz.ntmps34
  go_wp2
  exact bodyPost_ret (v := .tuple #[zeroVal, .bool false]) (by simp [results, Tryz.results34, go_sem, *]) rfl ⟨rfl, (by repeat (first | with_reducible exact Below.refl _ _ | with_reducible assumption | ((with_reducible refine Below.setCell ?_ ?_ _); rotate_left; (simp; try omega)) | (with_reducible refine Ext.tr ?_ (by with_reducible assumption)) | (with_reducible refine Ext.al ?_ _) | (with_reducible refine below_drewN ?_ _) | (with_reducible refine Below.drew ?_)))⟩

set_option maxHeartbeats 800000 in
theorem lookup_sign (a : Option Addr) (n c : Nat) (w : World) : Calls Tryz.prog 35 #[.string ⟨#[83, 73, 71, 78]⟩, .slice a n c] w (Gives w (.tuple #[zeroVal, .bool false])) := by
  go_enter Tryz.func35, Tryz.ntmps35
  go_wp2
  exact bodyPost_ret (v := .tuple #[zeroVal, .bool false]) (by simp [results, Tryz.results35, go_sem, *]) rfl ⟨rfl, (by repeat (first | with_reducible exact Below.refl _ _ | with_reducible assumption | ((with_reducible refine Below.setCell ?_ ?_ _); rotate_left; (simp; try omega)) | (with_reducible refine Ext.tr ?_ (by with_reducible assumption)) | (with_reducible refine Ext.al ?_ _) | (with_reducible refine below_drewN ?_ _) | (with_reducible refine Below.drew ?_)))⟩

set_option maxHeartbeats 800000 in
theorem callMath_sign (x : Sc) (b o c : Nat) (w : World) (hx : Lie w b o [x]) (hk : x.k = 1) (h1 : x.n ≤ 99999999999) (h2 : -99999999999 ≤ x.n) :
    Calls Tryz.prog 36 #[.string ⟨#[83, 73, 71, 78]⟩, .slice (some ⟨b, o, none⟩) 1 c] w (Gives w (.tuple #[number (sgn x.n) 1, .bool true])) := by
  have HX := Lib.hid hx; clear hx
  have HK := Lib.hid hk; clear hk
  go_enter Tryz.func36, Tryz.ntmps36
  go_wp2_with (go_at_call 81; refine (one_sign x b o c _ (HX.out.ext ((Ext.rf _).al _)) HK.out h1 h2).mono ?_; rintro e w1 ⟨rfl, hb⟩; obtain ⟨hc, hf, hz⟩ := ext_facts hb; (try simp at hz); (try (have hq : w.heap.size < w1.heap.size := by omega)); (try (have hq' : w.heap.size ≤ w1.heap.size := by omega)); (try (have hr := fun o => hc w.heap.size o (by first | omega | (simp; done) | (simp; omega)))); (try (have hrf := fun o => hf w.heap.size o (by first | omega | (simp; done) | (simp; omega)))))
  exact bodyPost_ret (v := .tuple #[number (sgn x.n) 1, .bool true]) (by simp [results, Tryz.results36, go_sem, *]) rfl ⟨rfl, (by repeat (first | with_reducible exact Below.refl _ _ | with_reducible assumption | ((with_reducible refine Below.setCell ?_ ?_ _); rotate_left; (simp; try omega)) | (with_reducible refine Ext.tr ?_ (by with_reducible assumption)) | (with_reducible refine Ext.al ?_ _) | (with_reducible refine below_drewN ?_ _) | (with_reducible refine Below.drew ?_)))⟩
end Go.Proofs.YtpcfmkongpmmmaaGreatDoor
