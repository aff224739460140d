/-
  QUOTIENT: the reference's side.
-/
import Derived.Test.YtpibjonfkkiliaaGreatDoorBitor
namespace Go.Proofs.YtpibjonfkkiliaaGreatDoor
set_option linter.unusedSimpArgs false
set_option linter.unusedVariables false
open Go Go.RowKit
set_option maxRecDepth 100000

set_option maxHeartbeats 800000 in
theorem Stat_QUOTIENT (a : Option Addr) (n c : Nat) (w : World) : Calls Tryz.prog 25 #[.string ⟨#[81, 85, 79, 84, 73, 69, 78, 84]⟩, .slice a n c] w (Gives w (.tuple #[zeroVal, .bool false])) := by
  go_enter Tryz.func25, Tryz.ntmps25
  go_wp2
  exact bodyPost_ret (v := .tuple #[zeroVal, .bool false]) (by simp [results, Tryz.results25, go_sem, *]) rfl ⟨rfl, (by repeat (first | with_reducible exact Below.refl _ _ | with_reducible assumption | ((with_reducible refine Below.setCell ?_ ?_ _); rotate_left; (simp; try omega)) | (with_reducible refine Ext.tr ?_ (by with_reducible assumption)) | (with_reducible refine Ext.al ?_ _) | (with_reducible refine below_drewN ?_ _) | (with_reducible refine Below.drew ?_)))⟩

set_option maxHeartbeats 800000 in
theorem Criteria_QUOTIENT (a : Option Addr) (n c : Nat) (w : World) : Calls Tryz.prog 26 #[.string ⟨#[81, 85, 79, 84, 73, 69, 78, 84]⟩, .slice a n c] w (Gives w (.tuple #[zeroVal, .bool false])) := by
  go_enter Tryz.func26, Tryz.ntmps26
  go_wp2
  exact bodyPost_ret (v := .tuple #[zeroVal, .bool false]) (by simp [results, Tryz.results26, go_sem, *]) rfl ⟨rfl, (by repeat (first | with_reducible exact Below.refl _ _ | with_reducible assumption | ((with_reducible refine Below.setCell ?_ ?_ _); rotate_left; (simp; try omega)) | (with_reducible refine Ext.tr ?_ (by with_reducible assumption)) | (with_reducible refine Ext.al ?_ _) | (with_reducible refine below_drewN ?_ _) | (with_reducible refine Below.drew ?_)))⟩

set_option maxHeartbeats 800000 in
theorem Lookup_QUOTIENT (a : Option Addr) (n c : Nat) (w : World) : Calls Tryz.prog 27 #[.string ⟨#[81, 85, 79, 84, 73, 69, 78, 84]⟩, .slice a n c] w (Gives w (.tuple #[zeroVal, .bool false])) := by
  go_enter Tryz.func27, Tryz.ntmps27
  go_wp2
  exact bodyPost_ret (v := .tuple #[zeroVal, .bool false]) (by simp [results, Tryz.results27, go_sem, *]) rfl ⟨rfl, (by repeat (first | with_reducible exact Below.refl _ _ | with_reducible assumption | ((with_reducible refine Below.setCell ?_ ?_ _); rotate_left; (simp; try omega)) | (with_reducible refine Ext.tr ?_ (by with_reducible assumption)) | (with_reducible refine Ext.al ?_ _) | (with_reducible refine below_drewN ?_ _) | (with_reducible refine Below.drew ?_)))⟩

set_option maxHeartbeats 800000 in
theorem fitsNumbers_quot (xs : List Sc) (b o c : Nat) (w : World) (hl : xs.length = 2) (hx : Lie w b o xs) (h : ∀ x ∈ xs, x.k = 1 ∨ x.k = 6) :
    Calls Tryz.prog 43 #[.string ⟨#[81, 85, 79, 84, 73, 69, 78, 84]⟩, .slice (some ⟨b, o, none⟩) 2 c] w (Gives w (.tuple #[.bool (xs.all numericOf), .bool true])) := by
  have hc1 := every_numeric xs b o c w (by rw [hl]; decide) hx h
  rw [hl] at hc1
  have HC := Lib.hid hc1; clear hl hx h hc1
  generalize xs.all numericOf = r at HC ⊢
  cases r
  all_goals
    go_enter Tryz.func43, Tryz.ntmps43
    go_wp2_with fail
    refine HC.out.mono ?_
    rintro e w1 ⟨rfl, hb⟩
    go_wp2
    go_ret2
    exact ⟨rfl, hb⟩

theorem fits_quot (x y : Sc) (b o c : Nat) (w : World) (hx : Lie w b o [x, y]) (h1 : x.k = 1 ∨ x.k = 6) (h2 : y.k = 1 ∨ y.k = 6) :
    Calls Tryz.prog 24 #[.string ⟨#[81, 85, 79, 84, 73, 69, 78, 84]⟩, .slice (some ⟨b, o, none⟩) 2 c] w (Gives w (.bool (numericOf x && numericOf y))) := by
  have e : (numericOf x && numericOf y) = [x, y].all numericOf := by simp
  rw [e]
  refine fits_of_numbers _ _ _ _ _ w fun w' hw => fitsNumbers_quot [x, y] b o c w' rfl (hx.ext hw) ?_
  intro z hz
  rcases List.mem_cons.1 hz with rfl | hz
  · exact h1
  · have e : z = y := by simpa using hz
    subst e; exact h2

/-- Whether both are within the bound of the reference. -/
def QIn (n m : Int) : Prop := -1000000000 ≤ n ∧ n ≤ 1000000000 ∧ -1000000000 ≤ m ∧ m ≤ 1000000000
instance (n m : Int) : Decidable (QIn n m) := by unfold QIn; infer_instance

/-- What QUOTIENT of two whole numbers is. -/
def quoSc (n m : Int) : Sc := if QIn n m then (if m = 0 then ⟨4, 0, 0, ⟨#[35, 68, 73, 86, 47, 48, 33]⟩⟩ else ⟨1, n.tdiv m, 1, ⟨#[]⟩⟩) else ⟨6, 0, 0, ⟨#[]⟩⟩

theorem tdiv_bound {n m : Int} (h1 : -1000000000 ≤ n) (h2 : n ≤ 1000000000) : -1000000000 ≤ n.tdiv m ∧ n.tdiv m ≤ 1000000000 := by
  have h : (n.tdiv m).natAbs = n.natAbs / m.natAbs := Int.natAbs_tdiv n m
  have h3 := Nat.div_le_self n.natAbs m.natAbs
  rw [← h] at h3
  omega

set_option maxHeartbeats 1600000 in
theorem two_quot (n m : Int) (b o c : Nat) (w : World) (hx : Lie w b o [⟨1, n, 1, ⟨#[]⟩⟩, ⟨1, m, 1, ⟨#[]⟩⟩]) (n1 : -99999999999 ≤ n) (n2 : n ≤ 99999999999) (m1 : -99999999999 ≤ m) (m2 : m ≤ 99999999999) :
    Calls Tryz.prog 80 #[.string ⟨#[81, 85, 79, 84, 73, 69, 78, 84]⟩, .slice (some ⟨b, o, none⟩) 2 c] w (Gives w (quoSc n m).val) := by
  have HX := Lib.hid hx; clear hx
  by_cases hq : QIn n m
  · obtain ⟨p1, p2, p3, p4⟩ := id hq
    by_cases h0 : m = 0
    · have hs : quoSc n m = ⟨4, 0, 0, ⟨#[35, 68, 73, 86, 47, 48, 33]⟩⟩ := by unfold quoSc; rw [if_pos hq, if_pos h0]
      rw [hs]
      subst h0
      clear hs hq
      go_enter Tryz.func80, Tryz.ntmps80
      go_wp2_with fail
      refine (wholes_ok [⟨1, n, 1, ⟨#[]⟩⟩, ⟨1, 0, 1, ⟨#[]⟩⟩] b o c _ (by simp) (HX.out.ext (by repeat (first | with_reducible exact Below.refl _ _ | with_reducible assumption | ((with_reducible refine Below.setCell ?_ ?_ _); rotate_left; (simp; try omega)) | (with_reducible refine Ext.tr ?_ (by with_reducible assumption)) | (with_reducible refine Ext.al ?_ _) | (with_reducible refine below_drewN ?_ _) | (with_reducible refine Below.drew ?_)))) (by simp) (by simp)).mono ?_
      rintro e w1 ⟨v, rfl, hown, hb1⟩
      obtain ⟨hc, hf, hz⟩ := ext_facts hb1; (try simp at hz); (try (have hq : w.heap.size < w1.heap.size := by omega)); (try (have hq' : w.heap.size ≤ w1.heap.size := by omega)); (try (have hr := fun o => hc w.heap.size o (by first | omega | (simp; done) | (simp; omega)))); (try (have hrf := fun o => hf w.heap.size o (by first | omega | (simp; done) | (simp; omega))))
      obtain ⟨g, cap, rfl, hg, hlie⟩ := hown.lie icells_len (by simp)
      have c0 := hlie 0 n rfl 0 _ rfl
      have c1 := hlie 1 0 rfl 0 _ rfl
      simp only [Nat.zero_mul, Nat.zero_add, Nat.one_mul, Nat.add_zero] at c0 c1
      have hglt : g < w1.heap.size := lt_of_cell c0
      clear hown hlie
      go_wp2_with fail
      go_quiet (fail)
      go_wp2_with (go_at_call 109; refine (err_any _ _).mono ?_; rintro e w1 ⟨rfl, hb⟩; obtain ⟨hc, hf, hz⟩ := ext_facts hb; (try simp at hz); (try (have hq : w.heap.size < w1.heap.size := by omega)); (try (have hq' : w.heap.size ≤ w1.heap.size := by omega)); (try (have hr := fun o => hc w.heap.size o (by first | omega | (simp; done) | (simp; omega)))); (try (have hrf := fun o => hf w.heap.size o (by first | omega | (simp; done) | (simp; omega)))))
      exact bodyPost_ret (v := Sc.val ⟨4, 0, 0, ⟨#[35, 68, 73, 86, 47, 48, 33]⟩⟩) (by simp [results, Tryz.results80, go_sem, *]) rfl ⟨rfl, (by repeat (first | with_reducible exact Below.refl _ _ | with_reducible assumption | ((with_reducible refine Below.setCell ?_ ?_ _); rotate_left; (simp; try omega)) | (with_reducible refine Ext.tr ?_ (by with_reducible assumption)) | (with_reducible refine Ext.al ?_ _) | (with_reducible refine below_drewN ?_ _) | (with_reducible refine Below.drew ?_)))⟩
    · have hs : quoSc n m = ⟨1, n.tdiv m, 1, ⟨#[]⟩⟩ := by unfold quoSc; rw [if_pos hq, if_neg h0]
      rw [hs]
      obtain ⟨t1, t2⟩ := tdiv_bound (m := m) p1 p2
      clear hs hq
      go_enter Tryz.func80, Tryz.ntmps80
      go_wp2_with fail
      refine (wholes_ok [⟨1, n, 1, ⟨#[]⟩⟩, ⟨1, m, 1, ⟨#[]⟩⟩] b o c _ (by simp) (HX.out.ext (by repeat (first | with_reducible exact Below.refl _ _ | with_reducible assumption | ((with_reducible refine Below.setCell ?_ ?_ _); rotate_left; (simp; try omega)) | (with_reducible refine Ext.tr ?_ (by with_reducible assumption)) | (with_reducible refine Ext.al ?_ _) | (with_reducible refine below_drewN ?_ _) | (with_reducible refine Below.drew ?_)))) (by simp) (by simp)).mono ?_
      rintro e w1 ⟨v, rfl, hown, hb1⟩
      obtain ⟨hc, hf, hz⟩ := ext_facts hb1; (try simp at hz); (try (have hq : w.heap.size < w1.heap.size := by omega)); (try (have hq' : w.heap.size ≤ w1.heap.size := by omega)); (try (have hr := fun o => hc w.heap.size o (by first | omega | (simp; done) | (simp; omega)))); (try (have hrf := fun o => hf w.heap.size o (by first | omega | (simp; done) | (simp; omega))))
      obtain ⟨g, cap, rfl, hg, hlie⟩ := hown.lie icells_len (by simp)
      have c0 := hlie 0 n rfl 0 _ rfl
      have c1 := hlie 1 m rfl 0 _ rfl
      simp only [Nat.zero_mul, Nat.zero_add, Nat.one_mul, Nat.add_zero] at c0 c1
      have hglt : g < w1.heap.size := lt_of_cell c0
      clear hown hlie
      go_wp2_with fail
      go_quiet (fail)
      go_wp2_with (go_at_call 15; refine (int_ok _ _ (by omega) (by omega)).mono ?_; rintro e w1 ⟨rfl, hb⟩; obtain ⟨hc, hf, hz⟩ := ext_facts hb; (try simp at hz); (try (have hq : w.heap.size < w1.heap.size := by omega)); (try (have hq' : w.heap.size ≤ w1.heap.size := by omega)); (try (have hr := fun o => hc w.heap.size o (by first | omega | (simp; done) | (simp; omega)))); (try (have hrf := fun o => hf w.heap.size o (by first | omega | (simp; done) | (simp; omega)))))
      exact bodyPost_ret (v := Sc.val ⟨1, n.tdiv m, 1, ⟨#[]⟩⟩) (by simp [results, Tryz.results80, go_sem, *]) rfl ⟨rfl, (by repeat (first | with_reducible exact Below.refl _ _ | with_reducible assumption | ((with_reducible refine Below.setCell ?_ ?_ _); rotate_left; (simp; try omega)) | (with_reducible refine Ext.tr ?_ (by with_reducible assumption)) | (with_reducible refine Ext.al ?_ _) | (with_reducible refine below_drewN ?_ _) | (with_reducible refine Below.drew ?_)))⟩
  · have hs : quoSc n m = ⟨6, 0, 0, ⟨#[]⟩⟩ := if_neg hq
    rw [hs]
    have hq2 : ¬ (-1000000000 ≤ n ∧ n ≤ 1000000000 ∧ -1000000000 ≤ m ∧ m ≤ 1000000000) := hq
    clear hs hq
    go_enter Tryz.func80, Tryz.ntmps80
    go_wp2_with fail
    refine (wholes_ok [⟨1, n, 1, ⟨#[]⟩⟩, ⟨1, m, 1, ⟨#[]⟩⟩] b o c _ (by simp) (HX.out.ext (by repeat (first | with_reducible exact Below.refl _ _ | with_reducible assumption | ((with_reducible refine Below.setCell ?_ ?_ _); rotate_left; (simp; try omega)) | (with_reducible refine Ext.tr ?_ (by with_reducible assumption)) | (with_reducible refine Ext.al ?_ _) | (with_reducible refine below_drewN ?_ _) | (with_reducible refine Below.drew ?_)))) (by simp) (by simp)).mono ?_
    rintro e w1 ⟨v, rfl, hown, hb1⟩
    obtain ⟨hc, hf, hz⟩ := ext_facts hb1; (try simp at hz); (try (have hq : w.heap.size < w1.heap.size := by omega)); (try (have hq' : w.heap.size ≤ w1.heap.size := by omega)); (try (have hr := fun o => hc w.heap.size o (by first | omega | (simp; done) | (simp; omega)))); (try (have hrf := fun o => hf w.heap.size o (by first | omega | (simp; done) | (simp; omega))))
    obtain ⟨g, cap, rfl, hg, hlie⟩ := hown.lie icells_len (by simp)
    have c0 := hlie 0 n rfl 0 _ rfl
    have c1 := hlie 1 m rfl 0 _ rfl
    simp only [Nat.zero_mul, Nat.zero_add, Nat.one_mul, Nat.add_zero] at c0 c1
    have hglt : g < w1.heap.size := lt_of_cell c0
    clear hown hlie
    by_cases a1 : n > 1000000000
    · go_wp2_with fail
      go_quiet (fail)
      go_wp2_with (go_at_call 23; refine (doubt_any _).mono ?_; rintro e w1 ⟨rfl, hb⟩; obtain ⟨hc, hf, hz⟩ := ext_facts hb; (try simp at hz); (try (have hq : w.heap.size < w1.heap.size := by omega)); (try (have hq' : w.heap.size ≤ w1.heap.size := by omega)); (try (have hr := fun o => hc w.heap.size o (by first | omega | (simp; done) | (simp; omega)))); (try (have hrf := fun o => hf w.heap.size o (by first | omega | (simp; done) | (simp; omega)))))
      exact bodyPost_ret (v := unsure) (by simp [results, Tryz.results80, go_sem, *]) rfl ⟨rfl, (by repeat (first | with_reducible exact Below.refl _ _ | with_reducible assumption | ((with_reducible refine Below.setCell ?_ ?_ _); rotate_left; (simp; try omega)) | (with_reducible refine Ext.tr ?_ (by with_reducible assumption)) | (with_reducible refine Ext.al ?_ _) | (with_reducible refine below_drewN ?_ _) | (with_reducible refine Below.drew ?_)))⟩
    · by_cases a2 : n < -1000000000
      · go_wp2_with fail
        go_quiet (fail)
        go_wp2_with (go_at_call 23; refine (doubt_any _).mono ?_; rintro e w1 ⟨rfl, hb⟩; obtain ⟨hc, hf, hz⟩ := ext_facts hb; (try simp at hz); (try (have hq : w.heap.size < w1.heap.size := by omega)); (try (have hq' : w.heap.size ≤ w1.heap.size := by omega)); (try (have hr := fun o => hc w.heap.size o (by first | omega | (simp; done) | (simp; omega)))); (try (have hrf := fun o => hf w.heap.size o (by first | omega | (simp; done) | (simp; omega)))))
        exact bodyPost_ret (v := unsure) (by simp [results, Tryz.results80, go_sem, *]) rfl ⟨rfl, (by repeat (first | with_reducible exact Below.refl _ _ | with_reducible assumption | ((with_reducible refine Below.setCell ?_ ?_ _); rotate_left; (simp; try omega)) | (with_reducible refine Ext.tr ?_ (by with_reducible assumption)) | (with_reducible refine Ext.al ?_ _) | (with_reducible refine below_drewN ?_ _) | (with_reducible refine Below.drew ?_)))⟩
      · by_cases a3 : m > 1000000000
        · go_wp2_with fail
          go_quiet (fail)
          go_wp2_with (go_at_call 23; refine (doubt_any _).mono ?_; rintro e w1 ⟨rfl, hb⟩; obtain ⟨hc, hf, hz⟩ := ext_facts hb; (try simp at hz); (try (have hq : w.heap.size < w1.heap.size := by omega)); (try (have hq' : w.heap.size ≤ w1.heap.size := by omega)); (try (have hr := fun o => hc w.heap.size o (by first | omega | (simp; done) | (simp; omega)))); (try (have hrf := fun o => hf w.heap.size o (by first | omega | (simp; done) | (simp; omega)))))
          exact bodyPost_ret (v := unsure) (by simp [results, Tryz.results80, go_sem, *]) rfl ⟨rfl, (by repeat (first | with_reducible exact Below.refl _ _ | with_reducible assumption | ((with_reducible refine Below.setCell ?_ ?_ _); rotate_left; (simp; try omega)) | (with_reducible refine Ext.tr ?_ (by with_reducible assumption)) | (with_reducible refine Ext.al ?_ _) | (with_reducible refine below_drewN ?_ _) | (with_reducible refine Below.drew ?_)))⟩
        · have a4 : m < -1000000000 := by omega
          go_wp2_with fail
          go_quiet (fail)
          go_wp2_with (go_at_call 23; refine (doubt_any _).mono ?_; rintro e w1 ⟨rfl, hb⟩; obtain ⟨hc, hf, hz⟩ := ext_facts hb; (try simp at hz); (try (have hq : w.heap.size < w1.heap.size := by omega)); (try (have hq' : w.heap.size ≤ w1.heap.size := by omega)); (try (have hr := fun o => hc w.heap.size o (by first | omega | (simp; done) | (simp; omega)))); (try (have hrf := fun o => hf w.heap.size o (by first | omega | (simp; done) | (simp; omega)))))
          exact bodyPost_ret (v := unsure) (by simp [results, Tryz.results80, go_sem, *]) rfl ⟨rfl, (by repeat (first | with_reducible exact Below.refl _ _ | with_reducible assumption | ((with_reducible refine Below.setCell ?_ ?_ _); rotate_left; (simp; try omega)) | (with_reducible refine Ext.tr ?_ (by with_reducible assumption)) | (with_reducible refine Ext.al ?_ _) | (with_reducible refine below_drewN ?_ _) | (with_reducible refine Below.drew ?_)))⟩

set_option maxHeartbeats 800000 in
theorem callMath_quot (n m : Int) (b o c : Nat) (w : World) (hx : Lie w b o [⟨1, n, 1, ⟨#[]⟩⟩, ⟨1, m, 1, ⟨#[]⟩⟩]) (h1 : -99999999999 ≤ n ∧ n ≤ 99999999999) (h2 : -99999999999 ≤ m ∧ m ≤ 99999999999) :
    Calls Tryz.prog 28 #[.string ⟨#[81, 85, 79, 84, 73, 69, 78, 84]⟩, .slice (some ⟨b, o, none⟩) 2 c] w (Gives w (.tuple #[(quoSc n m).val, .bool true])) := by
  have HC := Lib.hid (fun w' h => two_quot n m b o c w' (hx.ext h) h1.1 h1.2 h2.1 h2.2)
  clear hx h1 h2
  generalize quoSc n m = r at HC ⊢
  go_enter Tryz.func28, Tryz.ntmps28
  (go_wp2_with fail; refine (HC.out _ (by repeat (first | with_reducible exact Below.refl _ _ | with_reducible assumption | ((with_reducible refine Below.setCell ?_ ?_ _); rotate_left; (simp; try omega)) | (with_reducible refine Ext.tr ?_ (by with_reducible assumption)) | (with_reducible refine Ext.al ?_ _) | (with_reducible refine below_drewN ?_ _) | (with_reducible refine Below.drew ?_)))).mono ?_; rintro e w1 ⟨rfl, hb1⟩; obtain ⟨hc1, hf1, hz1⟩ := ext_facts hb1; (try simp at hz1); (have hq1_0 : w.heap.size < w1.heap.size := by omega); (have hl1_0 : w.heap.size ≤ w1.heap.size := by omega); (have hr1_0 := fun o => hc1 (w.heap.size) o (by first | omega | (simp; done) | (simp; omega))); (have hs1_0 := fun o => hf1 (w.heap.size) o (by first | omega | (simp; done) | (simp; omega))); (try simp (disch := first | omega | (simp; omega)) only [World.cell?_alloc_past, World.cell?_drew] at hr1_0); (try simp (disch := first | omega | (simp; omega)) only [World.frozen?_alloc_past, World.frozen?_drew] at hs1_0); clear hc1 hf1)
  go_wp2
  exact bodyPost_ret (v := .tuple #[r.val, .bool true]) (by simp [results, Tryz.results28, go_sem, *]) rfl ⟨rfl, (by repeat (first | with_reducible exact Below.refl _ _ | with_reducible assumption | ((with_reducible refine Below.setCell ?_ ?_ _); rotate_left; (simp; try omega)) | (with_reducible refine Ext.tr ?_ (by with_reducible assumption)) | (with_reducible refine Ext.al ?_ _) | (with_reducible refine below_drewN ?_ _) | (with_reducible refine Below.drew ?_)))⟩

theorem callOver_quot (n m : Int) (b o c : Nat) (w : World) (hx : Lie w b o [⟨1, n, 1, ⟨#[]⟩⟩, ⟨1, m, 1, ⟨#[]⟩⟩]) (h1 : -99999999999 ≤ n ∧ n ≤ 99999999999) (h2 : -99999999999 ≤ m ∧ m ≤ 99999999999) :
    Calls Tryz.prog 16 #[.string ⟨#[81, 85, 79, 84, 73, 69, 78, 84]⟩, .slice (some ⟨b, o, none⟩) 2 c, .slice (some ⟨b, o, none⟩) 2 c] w (Gives w (quoSc n m).val) := by
  refine callOver_math _ (quoSc n m) _ _ _ w (fun w' hw => ?_) (fun w' => Stat_QUOTIENT _ _ _ w') (fun w' => Criteria_QUOTIENT _ _ _ w') (fun w' => Lookup_QUOTIENT _ _ _ w') (fun w' hw => callMath_quot n m b o c w' (hx.ext hw) h1 h2)
  exact fits_quot _ _ b o c w' (hx.ext hw) (Or.inl rfl) (Or.inl rfl)
end Go.Proofs.YtpibjonfkkiliaaGreatDoor
