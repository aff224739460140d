/-
  ODD: the reference's side.
-/
import Derived.Test.YtobidgofiogndaaGreatDoorH
namespace Go.Proofs.YtobidgofiogndaaGreatDoor
set_option linter.unusedSimpArgs false
set_option linter.unusedVariables false
open Go Go.RowKit
set_option maxRecDepth 100000

set_option maxHeartbeats 800000 in
theorem Stat_ODD (a : Option Addr) (n c : Nat) (w : World) : Calls Tryz.prog 25 #[.string ⟨#[79, 68, 68]⟩, .slice a n c] w (Gives w (.tuple #[zeroVal, .bool false])) := by
  go_enter Tryz.func25, Tryz.ntmps25
  go_wp2
  exact bodyPost_ret (v := .tuple #[zeroVal, .bool false]) (by simp [results, Tryz.results25, go_sem, *]) rfl ⟨rfl, (by repeat (first | with_reducible exact Below.refl _ _ | with_reducible assumption | ((with_reducible refine Below.setCell ?_ ?_ _); rotate_left; (simp; try omega)) | (with_reducible refine Ext.tr ?_ (by with_reducible assumption)) | (with_reducible refine Ext.al ?_ _) | (with_reducible refine below_drewN ?_ _) | (with_reducible refine Below.drew ?_)))⟩

set_option maxHeartbeats 800000 in
theorem Criteria_ODD (a : Option Addr) (n c : Nat) (w : World) : Calls Tryz.prog 26 #[.string ⟨#[79, 68, 68]⟩, .slice a n c] w (Gives w (.tuple #[zeroVal, .bool false])) := by
  go_enter Tryz.func26, Tryz.ntmps26
  go_wp2
  exact bodyPost_ret (v := .tuple #[zeroVal, .bool false]) (by simp [results, Tryz.results26, go_sem, *]) rfl ⟨rfl, (by repeat (first | with_reducible exact Below.refl _ _ | with_reducible assumption | ((with_reducible refine Below.setCell ?_ ?_ _); rotate_left; (simp; try omega)) | (with_reducible refine Ext.tr ?_ (by with_reducible assumption)) | (with_reducible refine Ext.al ?_ _) | (with_reducible refine below_drewN ?_ _) | (with_reducible refine Below.drew ?_)))⟩

set_option maxHeartbeats 800000 in
theorem Lookup_ODD (a : Option Addr) (n c : Nat) (w : World) : Calls Tryz.prog 27 #[.string ⟨#[79, 68, 68]⟩, .slice a n c] w (Gives w (.tuple #[zeroVal, .bool false])) := by
  go_enter Tryz.func27, Tryz.ntmps27
  go_wp2
  exact bodyPost_ret (v := .tuple #[zeroVal, .bool false]) (by simp [results, Tryz.results27, go_sem, *]) rfl ⟨rfl, (by repeat (first | with_reducible exact Below.refl _ _ | with_reducible assumption | ((with_reducible refine Below.setCell ?_ ?_ _); rotate_left; (simp; try omega)) | (with_reducible refine Ext.tr ?_ (by with_reducible assumption)) | (with_reducible refine Ext.al ?_ _) | (with_reducible refine below_drewN ?_ _) | (with_reducible refine Below.drew ?_)))⟩

/-- The next odd number, away from 0. -/
def oddOf (n : Int) : Int := if n < 0 then (if n % 2 = 0 then n - 1 else n) else (if n % 2 = 0 then n + 1 else n)

theorem wrap_self (n : Int) (h1 : -9223372036854775808 ≤ n) (h2 : n ≤ 9223372036854775807) : IntKind.i64.wrap n = n := by
  simp only [IntKind.wrap, IntKind.bits, IntKind.signed]
  simp
  omega

set_option maxHeartbeats 400000 in
theorem floor_one (n : Int) (w : World) (h1 : -99999999999 ≤ n) (h2 : n ≤ 99999999999) : Calls Tryz.prog 169 #[.int .i64 n, .int .i64 1] w (Gives w (.int .i64 n)) := by
  have e1 : n.tdiv 1 = n := Int.tdiv_one n
  have e2 : n.tmod 1 = 0 := Int.tmod_one n
  go_enter Tryz.func169, Tryz.ntmps169
  go_wp2
  exact bodyPost_ret (v := .int .i64 n) (by simp [results, Tryz.results169, go_sem, *]) rfl ⟨rfl, (by repeat (first | with_reducible exact Below.refl _ _ | with_reducible assumption | ((with_reducible refine Below.setCell ?_ ?_ _); rotate_left; (simp; try omega)) | (with_reducible refine Ext.tr ?_ (by with_reducible assumption)) | (with_reducible refine Ext.al ?_ _) | (with_reducible refine below_drewN ?_ _) | (with_reducible refine Below.drew ?_)))⟩

set_option maxHeartbeats 400000 in
theorem away_one (n : Int) (w : World) (h0 : 0 ≤ n) (h2 : n ≤ 99999999999) : Calls Tryz.prog 171 #[.int .i64 n, .int .i64 1] w (Gives w (.int .i64 n)) := by
  go_enter Tryz.func171, Tryz.ntmps171
  go_wp2_with (go_at_call 169; refine (floor_one _ _ (by omega) (by omega)).mono ?_; rintro e w1 ⟨rfl, hb⟩; obtain ⟨hc, hf, hz⟩ := ext_facts hb; (try simp at hz); (try (have hq : w.heap.size < w1.heap.size := by omega)); (try (have hq' : w.heap.size ≤ w1.heap.size := by omega)); (try (have hr := fun o => hc w.heap.size o (by first | omega | (simp; done) | (simp; omega)))); (try (have hrf := fun o => hf w.heap.size o (by first | omega | (simp; done) | (simp; omega)))))
  exact bodyPost_ret (v := .int .i64 n) (by simp [results, Tryz.results171, go_sem, *]) rfl ⟨rfl, (by repeat (first | with_reducible exact Below.refl _ _ | with_reducible assumption | ((with_reducible refine Below.setCell ?_ ?_ _); rotate_left; (simp; try omega)) | (with_reducible refine Ext.tr ?_ (by with_reducible assumption)) | (with_reducible refine Ext.al ?_ _) | (with_reducible refine below_drewN ?_ _) | (with_reducible refine Below.drew ?_)))⟩

set_option maxHeartbeats 400000 in
theorem odd_pos (n : Int) (w : World) (h0 : 0 ≤ n) (h2 : n ≤ 99999999999) : Calls Tryz.prog 172 #[.int .i64 n, .int .i64 1] w (Gives w (.int .i64 (oddOf n))) := by
  have e : n.tmod 2 = n % 2 := Int.tmod_eq_emod_of_nonneg h0
  by_cases hp : n % 2 = 0
  · rw [show oddOf n = n + 1 by unfold oddOf; rw [if_neg (by omega), if_pos hp]]
    clear e
    go_enter Tryz.func172, Tryz.ntmps172
    go_wp2_with (go_at_call 171; refine (away_one _ _ h0 h2).mono ?_; rintro e w1 ⟨rfl, hb⟩; obtain ⟨hc, hf, hz⟩ := ext_facts hb; (try simp at hz); (try (have hq : w.heap.size < w1.heap.size := by omega)); (try (have hq' : w.heap.size ≤ w1.heap.size := by omega)); (try (have hr := fun o => hc w.heap.size o (by first | omega | (simp; done) | (simp; omega)))); (try (have hrf := fun o => hf w.heap.size o (by first | omega | (simp; done) | (simp; omega)))))
    exact bodyPost_ret (v := .int .i64 (n + 1)) (by simp [results, Tryz.results172, go_sem, *]) rfl ⟨rfl, (by repeat (first | with_reducible exact Below.refl _ _ | with_reducible assumption | ((with_reducible refine Below.setCell ?_ ?_ _); rotate_left; (simp; try omega)) | (with_reducible refine Ext.tr ?_ (by with_reducible assumption)) | (with_reducible refine Ext.al ?_ _) | (with_reducible refine below_drewN ?_ _) | (with_reducible refine Below.drew ?_)))⟩
  · rw [show oddOf n = n by unfold oddOf; rw [if_neg (by omega), if_neg hp]]
    clear e
    go_enter Tryz.func172, Tryz.ntmps172
    go_wp2_with (go_at_call 171; refine (away_one _ _ h0 h2).mono ?_; rintro e w1 ⟨rfl, hb⟩; obtain ⟨hc, hf, hz⟩ := ext_facts hb; (try simp at hz); (try (have hq : w.heap.size < w1.heap.size := by omega)); (try (have hq' : w.heap.size ≤ w1.heap.size := by omega)); (try (have hr := fun o => hc w.heap.size o (by first | omega | (simp; done) | (simp; omega)))); (try (have hrf := fun o => hf w.heap.size o (by first | omega | (simp; done) | (simp; omega)))))
    exact bodyPost_ret (v := .int .i64 n) (by simp [results, Tryz.results172, go_sem, *]) rfl ⟨rfl, (by repeat (first | with_reducible exact Below.refl _ _ | with_reducible assumption | ((with_reducible refine Below.setCell ?_ ?_ _); rotate_left; (simp; try omega)) | (with_reducible refine Ext.tr ?_ (by with_reducible assumption)) | (with_reducible refine Ext.al ?_ _) | (with_reducible refine below_drewN ?_ _) | (with_reducible refine Below.drew ?_)))⟩

set_option maxHeartbeats 400000 in
theorem odd_any (n : Int) (w : World) (h1 : -99999999999 ≤ n) (h2 : n ≤ 99999999999) : Calls Tryz.prog 172 #[.int .i64 n, .int .i64 1] w (Gives w (.int .i64 (oddOf n))) := by
  by_cases hn : 0 ≤ n
  · exact odd_pos n w hn h2
  · have hr : oddOf n = -oddOf (-n) := by
      unfold oddOf
      rw [if_pos (show n < 0 by omega), if_neg (show ¬ -n < 0 by omega)]
      by_cases hp : n % 2 = 0
      · rw [if_pos hp, if_pos (show -n % 2 = 0 by omega)]; omega
      · rw [if_neg hp, if_neg (show ¬ -n % 2 = 0 by omega)]; omega
    have hb : 0 ≤ oddOf (-n) ∧ oddOf (-n) ≤ 100000000000 := by
      unfold oddOf; rw [if_neg (by omega)]; split <;> omega
    have hodd := fun w' => odd_pos (-n) w' (by omega) (by omega)
    rw [hr]
    generalize oddOf (-n) = r at hodd hb
    have HO := Lib.hid hodd
    clear hodd hr
    go_enter Tryz.func172, Tryz.ntmps172
    go_wp2_with (go_at_call 172; refine (HO.out _).mono ?_; rintro e w1 ⟨rfl, hb1⟩)
    exact bodyPost_ret (v := .int .i64 (-r)) (by simp [results, Tryz.results172, go_sem, *]) rfl ⟨rfl, (by repeat (first | with_reducible exact Below.refl _ _ | with_reducible assumption | ((with_reducible refine Below.setCell ?_ ?_ _); rotate_left; (simp; try omega)) | (with_reducible refine Ext.tr ?_ (by with_reducible assumption)) | (with_reducible refine Ext.al ?_ _) | (with_reducible refine below_drewN ?_ _) | (with_reducible refine Below.drew ?_)))⟩

set_option maxHeartbeats 800000 in
theorem one_odd (n : Int) (b o c : Nat) (w : World) (hx : Lie w b o [⟨1, n, 1, ⟨#[]⟩⟩]) (h1 : -99999999999 ≤ n) (h2 : n ≤ 99999999999) (r1 : -99999999999 ≤ oddOf n) (r2 : oddOf n ≤ 99999999999) :
    Calls Tryz.prog 80 #[.string ⟨#[79, 68, 68]⟩, .slice (some ⟨b, o, none⟩) 1 c] w (Gives w (number (oddOf n) 1)) := by
  have HX := Lib.hid hx; clear hx
  have hodd := fun w' => odd_any n w' h1 h2
  have HO := Lib.hid hodd; clear hodd
  generalize oddOf n = r at *
  go_enter Tryz.func80, Tryz.ntmps80
  go_wp2_with fail
  refine (numbers_ok [⟨1, n, 1, ⟨#[]⟩⟩] b o c _ (by simp) (HX.out.ext (by repeat (first | with_reducible exact Below.refl _ _ | with_reducible assumption | ((with_reducible refine Below.setCell ?_ ?_ _); rotate_left; (simp; try omega)) | (with_reducible refine Ext.tr ?_ (by with_reducible assumption)) | (with_reducible refine Ext.al ?_ _) | (with_reducible refine below_drewN ?_ _) | (with_reducible refine Below.drew ?_)))) (by simp) (by simp)).mono ?_
  rintro e w1 ⟨v, rfl, hown, hb⟩
  obtain ⟨hc, hf, hz⟩ := ext_facts hb; (try simp at hz); (try (have hq : w.heap.size < w1.heap.size := by omega)); (try (have hq' : w.heap.size ≤ w1.heap.size := by omega)); (try (have hr := fun o => hc w.heap.size o (by first | omega | (simp; done) | (simp; omega)))); (try (have hrf := fun o => hf w.heap.size o (by first | omega | (simp; done) | (simp; omega))))
  obtain ⟨g, cap, rfl, hg, hlie⟩ := hown.lie (by simp)
  obtain ⟨c0, c1, c2, c3, c4⟩ := hlie.head (i := 0) rfl
  simp only [Nat.zero_mul, Nat.zero_add] at c0 c1 c2 c3 c4
  have hglt : g < w1.heap.size := lt_of_cell c0
  clear hown hlie
  go_wp2_with fail
  go_quiet (fail)
  (go_wp2_with fail; refine (HO.out _).mono ?_; rintro e w2 ⟨rfl, hb2⟩; obtain ⟨hc2, hf2, hz2⟩ := ext_facts hb2; (try simp at hz2); (have hq2_0 : w.heap.size < w2.heap.size := by omega); (have hl2_0 : w.heap.size ≤ w2.heap.size := by omega); (have hr2_0 := fun o => hc2 (w.heap.size) o (by first | omega | (simp; done) | (simp; omega))); (have hs2_0 := fun o => hf2 (w.heap.size) o (by first | omega | (simp; done) | (simp; omega))); (try simp (disch := first | omega | (simp; omega)) only [World.cell?_alloc_past, World.cell?_drew] at hr2_0); (try simp (disch := first | omega | (simp; omega)) only [World.frozen?_alloc_past, World.frozen?_drew] at hs2_0); (have hq2_1 : w1.heap.size < w2.heap.size := by omega); (have hl2_1 : w1.heap.size ≤ w2.heap.size := by omega); (have hr2_1 := fun o => hc2 (w1.heap.size) o (by first | omega | (simp; done) | (simp; omega))); (have hs2_1 := fun o => hf2 (w1.heap.size) o (by first | omega | (simp; done) | (simp; omega))); (try simp (disch := first | omega | (simp; omega)) only [World.cell?_alloc_past, World.cell?_drew] at hr2_1); (try simp (disch := first | omega | (simp; omega)) only [World.frozen?_alloc_past, World.frozen?_drew] at hs2_1); (have hq2_2 : g < w2.heap.size := by omega); (have hl2_2 : g ≤ w2.heap.size := by omega); (have hr2_2 := fun o => hc2 (g) o (by first | omega | (simp; done) | (simp; omega))); (have hs2_2 := fun o => hf2 (g) o (by first | omega | (simp; done) | (simp; omega))); (try simp (disch := first | omega | (simp; omega)) only [World.cell?_alloc_past, World.cell?_drew] at hr2_2); (try simp (disch := first | omega | (simp; omega)) only [World.frozen?_alloc_past, World.frozen?_drew] at hs2_2); clear hc2 hf2)
  go_wp2_with (go_at_call 79; refine (int_ok _ _ (by omega) (by omega)).mono ?_; rintro e w1 ⟨rfl, hb⟩; obtain ⟨hc, hf, hz⟩ := ext_facts hb; (try simp at hz); (try (have hq : w.heap.size < w1.heap.size := by omega)); (try (have hq' : w.heap.size ≤ w1.heap.size := by omega)); (try (have hr := fun o => hc w.heap.size o (by first | omega | (simp; done) | (simp; omega)))); (try (have hrf := fun o => hf w.heap.size o (by first | omega | (simp; done) | (simp; omega)))))
  exact bodyPost_ret (v := number r 1) (by simp [results, Tryz.results80, go_sem, *]) rfl ⟨rfl, (by repeat (first | with_reducible exact Below.refl _ _ | with_reducible assumption | ((with_reducible refine Below.setCell ?_ ?_ _); rotate_left; (simp; try omega)) | (with_reducible refine Ext.tr ?_ (by with_reducible assumption)) | (with_reducible refine Ext.al ?_ _) | (with_reducible refine below_drewN ?_ _) | (with_reducible refine Below.drew ?_)))⟩

set_option maxHeartbeats 800000 in
theorem one_odd_part (n d : Int) (b o c : Nat) (w : World) (hx : Lie w b o [⟨1, n, d, ⟨#[]⟩⟩]) (hd : ¬ d = 1) :
    Calls Tryz.prog 80 #[.string ⟨#[79, 68, 68]⟩, .slice (some ⟨b, o, none⟩) 1 c] w (Gives w unsure) := by
  have HX := Lib.hid hx; clear hx
  go_enter Tryz.func80, Tryz.ntmps80
  go_wp2_with fail
  refine (numbers_ok [⟨1, n, d, ⟨#[]⟩⟩] b o c _ (by simp) (HX.out.ext (by repeat (first | with_reducible exact Below.refl _ _ | with_reducible assumption | ((with_reducible refine Below.setCell ?_ ?_ _); rotate_left; (simp; try omega)) | (with_reducible refine Ext.tr ?_ (by with_reducible assumption)) | (with_reducible refine Ext.al ?_ _) | (with_reducible refine below_drewN ?_ _) | (with_reducible refine Below.drew ?_)))) (by simp) (by simp)).mono ?_
  rintro e w1 ⟨v, rfl, hown, hb⟩
  obtain ⟨hc, hf, hz⟩ := ext_facts hb; (try simp at hz); (try (have hq : w.heap.size < w1.heap.size := by omega)); (try (have hq' : w.heap.size ≤ w1.heap.size := by omega)); (try (have hr := fun o => hc w.heap.size o (by first | omega | (simp; done) | (simp; omega)))); (try (have hrf := fun o => hf w.heap.size o (by first | omega | (simp; done) | (simp; omega))))
  obtain ⟨g, cap, rfl, hg, hlie⟩ := hown.lie (by simp)
  obtain ⟨c0, c1, c2, c3, c4⟩ := hlie.head (i := 0) rfl
  simp only [Nat.zero_mul, Nat.zero_add] at c0 c1 c2 c3 c4
  have hglt : g < w1.heap.size := lt_of_cell c0
  clear hown hlie
  go_wp2_with fail
  go_quiet (fail)
  go_wp2_with (go_at_call 23; refine (doubt_any _).mono ?_; rintro e w1 ⟨rfl, hb⟩; obtain ⟨hc, hf, hz⟩ := ext_facts hb; (try simp at hz); (try (have hq : w.heap.size < w1.heap.size := by omega)); (try (have hq' : w.heap.size ≤ w1.heap.size := by omega)); (try (have hr := fun o => hc w.heap.size o (by first | omega | (simp; done) | (simp; omega)))); (try (have hrf := fun o => hf w.heap.size o (by first | omega | (simp; done) | (simp; omega)))))
  exact bodyPost_ret (v := unsure) (by simp [results, Tryz.results80, go_sem, *]) rfl ⟨rfl, (by repeat (first | with_reducible exact Below.refl _ _ | with_reducible assumption | ((with_reducible refine Below.setCell ?_ ?_ _); rotate_left; (simp; try omega)) | (with_reducible refine Ext.tr ?_ (by with_reducible assumption)) | (with_reducible refine Ext.al ?_ _) | (with_reducible refine below_drewN ?_ _) | (with_reducible refine Below.drew ?_)))⟩

set_option maxHeartbeats 800000 in
theorem fitsNumbers_odd (xs : List Sc) (b o c : Nat) (w : World) (hl : xs.length = 1) (hx : Lie w b o xs) (h : ∀ x ∈ xs, x.k = 1 ∨ x.k = 6) :
    Calls Tryz.prog 43 #[.string ⟨#[79, 68, 68]⟩, .slice (some ⟨b, o, none⟩) 1 c] w (Gives w (.tuple #[.bool (xs.all numericOf), .bool true])) := by
  have hc1 := every_numeric xs b o c w (by rw [hl]; decide) hx h
  rw [hl] at hc1
  have HC := Lib.hid hc1; clear hl hx h hc1
  generalize xs.all numericOf = r at HC ⊢
  cases r
  all_goals
    go_enter Tryz.func43, Tryz.ntmps43
    go_wp2_with fail
    refine HC.out.mono ?_
    rintro e w1 ⟨rfl, hb⟩
    go_wp2
    go_ret2
    exact ⟨rfl, hb⟩

theorem fits_odd (x : Sc) (b o c : Nat) (w : World) (hx : Lie w b o [x]) (h1 : x.k = 1 ∨ x.k = 6) :
    Calls Tryz.prog 24 #[.string ⟨#[79, 68, 68]⟩, .slice (some ⟨b, o, none⟩) 1 c] w (Gives w (.bool (numericOf x))) := by
  have e : numericOf x = [x].all numericOf := by simp
  rw [e]
  refine fits_of_numbers _ _ _ _ _ w fun w' hw => fitsNumbers_odd [x] b o c w' rfl (hx.ext hw) ?_
  intro z hz
  have e : z = x := by simpa using hz
  subst e; exact h1

/-- What ODD of a number is. -/
def oddSc (n d : Int) : Sc := if d = 1 then ⟨1, oddOf n, 1, ⟨#[]⟩⟩ else ⟨6, 0, 0, ⟨#[]⟩⟩

theorem odd_bound {n : Int} (h1 : -99999999999 ≤ n) (h2 : n ≤ 99999999999) : -99999999999 ≤ oddOf n ∧ oddOf n ≤ 99999999999 := by
  unfold oddOf; split <;> split <;> omega

theorem one_oddSc (n d : Int) (b o c : Nat) (w : World) (hx : Lie w b o [⟨1, n, d, ⟨#[]⟩⟩]) (h1 : -99999999999 ≤ n) (h2 : n ≤ 99999999999) :
    Calls Tryz.prog 80 #[.string ⟨#[79, 68, 68]⟩, .slice (some ⟨b, o, none⟩) 1 c] w (Gives w (oddSc n d).val) := by
  by_cases hd : d = 1
  · subst hd
    rw [show oddSc n 1 = ⟨1, oddOf n, 1, ⟨#[]⟩⟩ from if_pos rfl]
    exact one_odd n b o c w hx h1 h2 (odd_bound h1 h2).1 (odd_bound h1 h2).2
  · rw [show oddSc n d = ⟨6, 0, 0, ⟨#[]⟩⟩ from if_neg hd]
    exact one_odd_part n d b o c w hx hd

set_option maxHeartbeats 800000 in
theorem callMath_odd (n d : Int) (b o c : Nat) (w : World) (hx : Lie w b o [⟨1, n, d, ⟨#[]⟩⟩]) (h1 : -99999999999 ≤ n) (h2 : n ≤ 99999999999) :
    Calls Tryz.prog 28 #[.string ⟨#[79, 68, 68]⟩, .slice (some ⟨b, o, none⟩) 1 c] w (Gives w (.tuple #[(oddSc n d).val, .bool true])) := by
  have HC := Lib.hid (fun w' h => one_oddSc n d b o c w' (hx.ext h) h1 h2)
  clear hx h1 h2
  generalize oddSc n d = r at HC ⊢
  go_enter Tryz.func28, Tryz.ntmps28
  (go_wp2_with fail; refine (HC.out _ (by repeat (first | with_reducible exact Below.refl _ _ | with_reducible assumption | ((with_reducible refine Below.setCell ?_ ?_ _); rotate_left; (simp; try omega)) | (with_reducible refine Ext.tr ?_ (by with_reducible assumption)) | (with_reducible refine Ext.al ?_ _) | (with_reducible refine below_drewN ?_ _) | (with_reducible refine Below.drew ?_)))).mono ?_; rintro e w1 ⟨rfl, hb1⟩; obtain ⟨hc1, hf1, hz1⟩ := ext_facts hb1; (try simp at hz1); (have hq1_0 : w.heap.size < w1.heap.size := by omega); (have hl1_0 : w.heap.size ≤ w1.heap.size := by omega); (have hr1_0 := fun o => hc1 (w.heap.size) o (by first | omega | (simp; done) | (simp; omega))); (have hs1_0 := fun o => hf1 (w.heap.size) o (by first | omega | (simp; done) | (simp; omega))); (try simp (disch := first | omega | (simp; omega)) only [World.cell?_alloc_past, World.cell?_drew] at hr1_0); (try simp (disch := first | omega | (simp; omega)) only [World.frozen?_alloc_past, World.frozen?_drew] at hs1_0); clear hc1 hf1)
  go_wp2
  exact bodyPost_ret (v := .tuple #[r.val, .bool true]) (by simp [results, Tryz.results28, go_sem, *]) rfl ⟨rfl, (by repeat (first | with_reducible exact Below.refl _ _ | with_reducible assumption | ((with_reducible refine Below.setCell ?_ ?_ _); rotate_left; (simp; try omega)) | (with_reducible refine Ext.tr ?_ (by with_reducible assumption)) | (with_reducible refine Ext.al ?_ _) | (with_reducible refine below_drewN ?_ _) | (with_reducible refine Below.drew ?_)))⟩

theorem callOver_odd (n d : Int) (b o c : Nat) (w : World) (hx : Lie w b o [⟨1, n, d, ⟨#[]⟩⟩]) (h1 : -99999999999 ≤ n) (h2 : n ≤ 99999999999) :
    Calls Tryz.prog 16 #[.string ⟨#[79, 68, 68]⟩, .slice (some ⟨b, o, none⟩) 1 c, .slice (some ⟨b, o, none⟩) 1 c] w (Gives w (oddSc n d).val) := by
  refine callOver_math _ (oddSc n d) _ _ _ w (fun w' hw => ?_) (fun w' => Stat_ODD _ _ _ w') (fun w' => Criteria_ODD _ _ _ w') (fun w' => Lookup_ODD _ _ _ w') (fun w' hw => callMath_odd n d b o c w' (hx.ext hw) h1 h2)
  exact fits_odd _ b o c w' (hx.ext hw) (Or.inl rfl)
end Go.Proofs.YtobidgofiogndaaGreatDoor
