/-
  DELTA: the reference's side.
-/
import Derived.Test.YtkhbljlnpgpaaabGreatDoorW
namespace Go.Proofs.YtkhbljlnpgpaaabGreatDoor
set_option linter.unusedSimpArgs false
set_option linter.unusedVariables false
open Go Go.RowKit
set_option maxRecDepth 100000

set_option maxHeartbeats 800000 in
theorem Stat_DELTA (a : Option Addr) (n c : Nat) (w : World) : Calls Tryz.prog 25 #[.string ⟨#[68, 69, 76, 84, 65]⟩, .slice a n c] w (Gives w (.tuple #[zeroVal, .bool false])) := by
  go_enter Tryz.func25, Tryz.ntmps25
  go_wp2
  exact bodyPost_ret (v := .tuple #[zeroVal, .bool false]) (by simp [results, Tryz.results25, go_sem, *]) rfl ⟨rfl, (by repeat (first | with_reducible exact Below.refl _ _ | with_reducible assumption | ((with_reducible refine Below.setCell ?_ ?_ _); rotate_left; (simp; try omega)) | (with_reducible refine Ext.tr ?_ (by with_reducible assumption)) | (with_reducible refine Ext.al ?_ _) | (with_reducible refine below_drewN ?_ _) | (with_reducible refine Below.drew ?_)))⟩

set_option maxHeartbeats 800000 in
theorem Criteria_DELTA (a : Option Addr) (n c : Nat) (w : World) : Calls Tryz.prog 26 #[.string ⟨#[68, 69, 76, 84, 65]⟩, .slice a n c] w (Gives w (.tuple #[zeroVal, .bool false])) := by
  go_enter Tryz.func26, Tryz.ntmps26
  go_wp2
  exact bodyPost_ret (v := .tuple #[zeroVal, .bool false]) (by simp [results, Tryz.results26, go_sem, *]) rfl ⟨rfl, (by repeat (first | with_reducible exact Below.refl _ _ | with_reducible assumption | ((with_reducible refine Below.setCell ?_ ?_ _); rotate_left; (simp; try omega)) | (with_reducible refine Ext.tr ?_ (by with_reducible assumption)) | (with_reducible refine Ext.al ?_ _) | (with_reducible refine below_drewN ?_ _) | (with_reducible refine Below.drew ?_)))⟩

set_option maxHeartbeats 800000 in
theorem Lookup_DELTA (a : Option Addr) (n c : Nat) (w : World) : Calls Tryz.prog 27 #[.string ⟨#[68, 69, 76, 84, 65]⟩, .slice a n c] w (Gives w (.tuple #[zeroVal, .bool false])) := by
  go_enter Tryz.func27, Tryz.ntmps27
  go_wp2
  exact bodyPost_ret (v := .tuple #[zeroVal, .bool false]) (by simp [results, Tryz.results27, go_sem, *]) rfl ⟨rfl, (by repeat (first | with_reducible exact Below.refl _ _ | with_reducible assumption | ((with_reducible refine Below.setCell ?_ ?_ _); rotate_left; (simp; try omega)) | (with_reducible refine Ext.tr ?_ (by with_reducible assumption)) | (with_reducible refine Ext.al ?_ _) | (with_reducible refine below_drewN ?_ _) | (with_reducible refine Below.drew ?_)))⟩

/-- 1, if both are equal. -/
def dlt (a b : Int) : Int := if a = b then 1 else 0

set_option maxHeartbeats 800000 in
theorem fitsNumbers_delta (xs : List Sc) (b o c : Nat) (w : World) (hl : xs.length = 2) (hx : Lie w b o xs) (h : ∀ x ∈ xs, x.k = 1 ∨ x.k = 6) :
    Calls Tryz.prog 43 #[.string ⟨#[68, 69, 76, 84, 65]⟩, .slice (some ⟨b, o, none⟩) 2 c] w (Gives w (.tuple #[.bool (xs.all numericOf), .bool true])) := by
  have hc1 := every_numeric xs b o c w (by rw [hl]; decide) hx h
  rw [hl] at hc1
  have HC := Lib.hid hc1; clear hl hx h hc1
  generalize xs.all numericOf = r at HC ⊢
  cases r
  all_goals
    go_enter Tryz.func43, Tryz.ntmps43
    go_wp2_with fail
    refine HC.out.mono ?_
    rintro e w1 ⟨rfl, hb⟩
    go_wp2
    go_ret2
    exact ⟨rfl, hb⟩

theorem fits_delta (x y : Sc) (b o c : Nat) (w : World) (hx : Lie w b o [x, y]) (h1 : x.k = 1 ∨ x.k = 6) (h2 : y.k = 1 ∨ y.k = 6) :
    Calls Tryz.prog 24 #[.string ⟨#[68, 69, 76, 84, 65]⟩, .slice (some ⟨b, o, none⟩) 2 c] w (Gives w (.bool (numericOf x && numericOf y))) := by
  have e : (numericOf x && numericOf y) = [x, y].all numericOf := by simp
  rw [e]
  refine fits_of_numbers _ _ _ _ _ w fun w' hw => fitsNumbers_delta [x, y] b o c w' rfl (hx.ext hw) ?_
  intro z hz
  rcases List.mem_cons.1 hz with rfl | hz
  · exact h1
  · have e : z = y := by simpa using hz
    subst e; exact h2

set_option maxHeartbeats 1600000 in
theorem step_delta (x y : Sc) (b o c : Nat) (w : World) (hx : Lie w b o [x, y]) (hk1 : x.k = 1) (hk2 : y.k = 1)
    (p q : Int) (hpp : x.n * y.d = p) (hqq : y.n * x.d = q) (p1 : -9000000000000 ≤ p) (p2 : p ≤ 9000000000000) (q1 : -9000000000000 ≤ q) (q2 : q ≤ 9000000000000) :
    Calls Tryz.prog 83 #[.string ⟨#[68, 69, 76, 84, 65]⟩, .slice (some ⟨b, o, none⟩) 2 c] w (Gives w (number (dlt p q) 1)) := by
  have HX := Lib.hid hx; clear hx
  have HK1 := Lib.hid hk1; clear hk1
  have HK2 := Lib.hid hk2; clear hk2
  go_enter Tryz.func83, Tryz.ntmps83
  go_wp2_with fail
  refine (numbers_ok [x, y] b o c _ (by simp) (HX.out.ext (by repeat (first | with_reducible exact Below.refl _ _ | with_reducible assumption | ((with_reducible refine Below.setCell ?_ ?_ _); rotate_left; (simp; try omega)) | (with_reducible refine Ext.tr ?_ (by with_reducible assumption)) | (with_reducible refine Ext.al ?_ _) | (with_reducible refine below_drewN ?_ _) | (with_reducible refine Below.drew ?_)))) (by simp) (by simp [HK1.out, HK2.out])).mono ?_
  rintro e w1 ⟨v, rfl, hown, hb1⟩
  obtain ⟨hc, hf, hz⟩ := ext_facts hb1; (try simp at hz); (try (have hq : w.heap.size < w1.heap.size := by omega)); (try (have hq' : w.heap.size ≤ w1.heap.size := by omega)); (try (have hr := fun o => hc w.heap.size o (by first | omega | (simp; done) | (simp; omega)))); (try (have hrf := fun o => hf w.heap.size o (by first | omega | (simp; done) | (simp; omega))))
  obtain ⟨g, cap, rfl, hg, hlie⟩ := hown.lie (by simp)
  obtain ⟨c0, c1, c2, c3, c4⟩ := hlie.head (i := 0) rfl
  simp only [Nat.zero_mul, Nat.zero_add] at c0 c1 c2 c3 c4
  obtain ⟨d0, d1, d2, d3, d4⟩ := hlie.head (i := 1) rfl
  simp only [Nat.one_mul, Nat.reduceAdd] at d0 d1 d2 d3 d4
  have hglt : g < w1.heap.size := lt_of_cell c0
  clear hown hlie
  have hxw : Ext w w1 := (by repeat (first | with_reducible exact Below.refl _ _ | with_reducible assumption | ((with_reducible refine Below.setCell ?_ ?_ _); rotate_left; (simp; try omega)) | (with_reducible refine Ext.tr ?_ (by with_reducible assumption)) | (with_reducible refine Ext.al ?_ _) | (with_reducible refine below_drewN ?_ _) | (with_reducible refine Below.drew ?_)))
  (go_wp2_with fail; refine (strict_ok [x, y] b o c _ (by simp) (HX.out.ext (by repeat (first | with_reducible exact Below.refl _ _ | with_reducible assumption | ((with_reducible refine Below.setCell ?_ ?_ _); rotate_left; (simp; try omega)) | (with_reducible refine Ext.tr ?_ (by with_reducible assumption)) | (with_reducible refine Ext.al ?_ _) | (with_reducible refine below_drewN ?_ _) | (with_reducible refine Below.drew ?_)))) (by simp [HK1.out, HK2.out])).mono ?_; rintro e w2 ⟨rfl, hb2⟩; obtain ⟨hc2, hf2, hz2⟩ := ext_facts hb2; (try simp at hz2); (have hq2_0 : w.heap.size < w2.heap.size := by omega); (have hl2_0 : w.heap.size ≤ w2.heap.size := by omega); (have hr2_0 := fun o => hc2 (w.heap.size) o (by first | omega | (simp; done) | (simp; omega))); (have hs2_0 := fun o => hf2 (w.heap.size) o (by first | omega | (simp; done) | (simp; omega))); (have hq2_1 : w1.heap.size < w2.heap.size := by omega); (have hl2_1 : w1.heap.size ≤ w2.heap.size := by omega); (have hr2_1 := fun o => hc2 (w1.heap.size) o (by first | omega | (simp; done) | (simp; omega))); (have hs2_1 := fun o => hf2 (w1.heap.size) o (by first | omega | (simp; done) | (simp; omega))); (have hq2_2 : g < w2.heap.size := by omega); (have hl2_2 : g ≤ w2.heap.size := by omega); (have hr2_2 := fun o => hc2 (g) o (by first | omega | (simp; done) | (simp; omega))); (have hs2_2 := fun o => hf2 (g) o (by first | omega | (simp; done) | (simp; omega))); clear hc2 hf2)
  go_wp2_with fail
  have HPP := Lib.hid hpp; clear hpp
  have HQQ := Lib.hid hqq; clear hqq
  go_quiet (fail)
  rw [HPP.out, HQQ.out, IntWalk.wrap64_in p (by omega), IntWalk.wrap64_in q (by omega)]
  by_cases h : p = q
  · have hd : dlt p q = 1 := if_pos h
    have hb : (p == q) = true := by simpa using h
    have HD := Lib.hid hd
    clear hd h
    go_wp2_with (go_at_call 79; refine (int_ok _ _ (by omega) (by omega)).mono ?_; rintro e w1 ⟨rfl, hb⟩; obtain ⟨hc, hf, hz⟩ := ext_facts hb; (try simp at hz); (try (have hq : w.heap.size < w1.heap.size := by omega)); (try (have hq' : w.heap.size ≤ w1.heap.size := by omega)); (try (have hr := fun o => hc w.heap.size o (by first | omega | (simp; done) | (simp; omega)))); (try (have hrf := fun o => hf w.heap.size o (by first | omega | (simp; done) | (simp; omega)))))
    exact bodyPost_ret (v := number 1 1) (by simp [results, Tryz.results83, go_sem, *]) rfl ⟨by rw [HD.out], (by repeat (first | with_reducible exact Below.refl _ _ | with_reducible assumption | ((with_reducible refine Below.setCell ?_ ?_ _); rotate_left; (simp; try omega)) | (with_reducible refine Ext.tr ?_ (by with_reducible assumption)) | (with_reducible refine Ext.al ?_ _) | (with_reducible refine below_drewN ?_ _) | (with_reducible refine Below.drew ?_)))⟩
  · have hd : dlt p q = 0 := if_neg h
    have hb : (p == q) = false := by simpa using h
    have HD := Lib.hid hd
    clear hd h
    go_wp2_with (go_at_call 79; refine (int_ok _ _ (by omega) (by omega)).mono ?_; rintro e w1 ⟨rfl, hb⟩; obtain ⟨hc, hf, hz⟩ := ext_facts hb; (try simp at hz); (try (have hq : w.heap.size < w1.heap.size := by omega)); (try (have hq' : w.heap.size ≤ w1.heap.size := by omega)); (try (have hr := fun o => hc w.heap.size o (by first | omega | (simp; done) | (simp; omega)))); (try (have hrf := fun o => hf w.heap.size o (by first | omega | (simp; done) | (simp; omega)))))
    exact bodyPost_ret (v := number 0 1) (by simp [results, Tryz.results83, go_sem, *]) rfl ⟨by rw [HD.out], (by repeat (first | with_reducible exact Below.refl _ _ | with_reducible assumption | ((with_reducible refine Below.setCell ?_ ?_ _); rotate_left; (simp; try omega)) | (with_reducible refine Ext.tr ?_ (by with_reducible assumption)) | (with_reducible refine Ext.al ?_ _) | (with_reducible refine below_drewN ?_ _) | (with_reducible refine Below.drew ?_)))⟩

set_option maxHeartbeats 800000 in
theorem callMath_delta (x y : Sc) (b o c : Nat) (w : World) (hx : Lie w b o [x, y]) (hk1 : x.k = 1) (hk2 : y.k = 1)
    (p q : Int) (hpp : x.n * y.d = p) (hqq : y.n * x.d = q) (p1 : -9000000000000 ≤ p) (p2 : p ≤ 9000000000000) (q1 : -9000000000000 ≤ q) (q2 : q ≤ 9000000000000) :
    Calls Tryz.prog 28 #[.string ⟨#[68, 69, 76, 84, 65]⟩, .slice (some ⟨b, o, none⟩) 2 c] w (Gives w (.tuple #[number (dlt p q) 1, .bool true])) := by
  have HC := Lib.hid (fun w' h => step_delta x y b o c w' (hx.ext h) hk1 hk2 p q hpp hqq p1 p2 q1 q2)
  clear hx hk1 hk2 hpp hqq p1 p2 q1 q2
  go_enter Tryz.func28, Tryz.ntmps28
  (go_wp2_with fail; refine (HC.out _ (by repeat (first | with_reducible exact Below.refl _ _ | with_reducible assumption | ((with_reducible refine Below.setCell ?_ ?_ _); rotate_left; (simp; try omega)) | (with_reducible refine Ext.tr ?_ (by with_reducible assumption)) | (with_reducible refine Ext.al ?_ _) | (with_reducible refine below_drewN ?_ _) | (with_reducible refine Below.drew ?_)))).mono ?_; rintro e w1 ⟨rfl, hb1⟩; obtain ⟨hc1, hf1, hz1⟩ := ext_facts hb1; (try simp at hz1); (have hq1_0 : w.heap.size < w1.heap.size := by omega); (have hl1_0 : w.heap.size ≤ w1.heap.size := by omega); (have hr1_0 := fun o => hc1 (w.heap.size) o (by first | omega | (simp; done) | (simp; omega))); (have hs1_0 := fun o => hf1 (w.heap.size) o (by first | omega | (simp; done) | (simp; omega))); clear hc1 hf1)
  go_wp2
  exact bodyPost_ret (v := .tuple #[number (dlt p q) 1, .bool true]) (by simp [results, Tryz.results28, go_sem, *]) rfl ⟨rfl, (by repeat (first | with_reducible exact Below.refl _ _ | with_reducible assumption | ((with_reducible refine Below.setCell ?_ ?_ _); rotate_left; (simp; try omega)) | (with_reducible refine Ext.tr ?_ (by with_reducible assumption)) | (with_reducible refine Ext.al ?_ _) | (with_reducible refine below_drewN ?_ _) | (with_reducible refine Below.drew ?_)))⟩

theorem callOver_delta (x y : Sc) (b o c : Nat) (w : World) (hx : Lie w b o [x, y]) (hk1 : x.k = 1) (hk2 : y.k = 1)
    (p q : Int) (hpp : x.n * y.d = p) (hqq : y.n * x.d = q) (p1 : -9000000000000 ≤ p) (p2 : p ≤ 9000000000000) (q1 : -9000000000000 ≤ q) (q2 : q ≤ 9000000000000) :
    Calls Tryz.prog 16 #[.string ⟨#[68, 69, 76, 84, 65]⟩, .slice (some ⟨b, o, none⟩) 2 c, .slice (some ⟨b, o, none⟩) 2 c] w (Gives w (number (dlt p q) 1)) := by
  refine callOver_math _ ⟨1, dlt p q, 1, ⟨#[]⟩⟩ _ _ _ w (fun w' hw => ?_) (fun w' => Stat_DELTA _ _ _ w') (fun w' => Criteria_DELTA _ _ _ w') (fun w' => Lookup_DELTA _ _ _ w') (fun w' hw => callMath_delta x y b o c w' (hx.ext hw) hk1 hk2 p q hpp hqq p1 p2 q1 q2)
  have h := fits_delta x y b o c w' (hx.ext hw) (Or.inl hk1) (Or.inl hk2)
  rwa [show (numericOf x && numericOf y) = true by simp [numericOf, hk1, hk2]] at h
end Go.Proofs.YtkhbljlnpgpaaabGreatDoor
