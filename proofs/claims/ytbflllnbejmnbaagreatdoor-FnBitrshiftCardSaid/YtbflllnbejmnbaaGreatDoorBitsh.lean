/-
  BITRSHIFT: the reference's side.
-/
import Derived.Test.YtbflllnbejmnbaaGreatDoorBitor
namespace Go.Proofs.YtbflllnbejmnbaaGreatDoor
set_option linter.unusedSimpArgs false
set_option linter.unusedVariables false
open Go Go.RowKit
set_option maxRecDepth 100000

set_option maxHeartbeats 800000 in
theorem Stat_BITRSHIFT (a : Option Addr) (n c : Nat) (w : World) : Calls Tryz.prog 25 #[.string ⟨#[66, 73, 84, 82, 83, 72, 73, 70, 84]⟩, .slice a n c] w (Gives w (.tuple #[zeroVal, .bool false])) := by
  go_enter Tryz.func25, Tryz.ntmps25
  go_wp2
  exact bodyPost_ret (v := .tuple #[zeroVal, .bool false]) (by simp [results, Tryz.results25, go_sem, *]) rfl ⟨rfl, (by repeat (first | with_reducible exact Below.refl _ _ | with_reducible assumption | ((with_reducible refine Below.setCell ?_ ?_ _); rotate_left; (simp; try omega)) | (with_reducible refine Ext.tr ?_ (by with_reducible assumption)) | (with_reducible refine Ext.al ?_ _) | (with_reducible refine below_drewN ?_ _) | (with_reducible refine Below.drew ?_)))⟩

set_option maxHeartbeats 800000 in
theorem Criteria_BITRSHIFT (a : Option Addr) (n c : Nat) (w : World) : Calls Tryz.prog 26 #[.string ⟨#[66, 73, 84, 82, 83, 72, 73, 70, 84]⟩, .slice a n c] w (Gives w (.tuple #[zeroVal, .bool false])) := by
  go_enter Tryz.func26, Tryz.ntmps26
  go_wp2
  exact bodyPost_ret (v := .tuple #[zeroVal, .bool false]) (by simp [results, Tryz.results26, go_sem, *]) rfl ⟨rfl, (by repeat (first | with_reducible exact Below.refl _ _ | with_reducible assumption | ((with_reducible refine Below.setCell ?_ ?_ _); rotate_left; (simp; try omega)) | (with_reducible refine Ext.tr ?_ (by with_reducible assumption)) | (with_reducible refine Ext.al ?_ _) | (with_reducible refine below_drewN ?_ _) | (with_reducible refine Below.drew ?_)))⟩

set_option maxHeartbeats 800000 in
theorem Lookup_BITRSHIFT (a : Option Addr) (n c : Nat) (w : World) : Calls Tryz.prog 27 #[.string ⟨#[66, 73, 84, 82, 83, 72, 73, 70, 84]⟩, .slice a n c] w (Gives w (.tuple #[zeroVal, .bool false])) := by
  go_enter Tryz.func27, Tryz.ntmps27
  go_wp2
  exact bodyPost_ret (v := .tuple #[zeroVal, .bool false]) (by simp [results, Tryz.results27, go_sem, *]) rfl ⟨rfl, (by repeat (first | with_reducible exact Below.refl _ _ | with_reducible assumption | ((with_reducible refine Below.setCell ?_ ?_ _); rotate_left; (simp; try omega)) | (with_reducible refine Ext.tr ?_ (by with_reducible assumption)) | (with_reducible refine Ext.al ?_ _) | (with_reducible refine below_drewN ?_ _) | (with_reducible refine Below.drew ?_)))⟩

set_option maxHeartbeats 800000 in
theorem fitsNumbers_shift (x y : Sc) (b o c : Nat) (w : World) (p r : Bool) (hx : Lie w b o [x, y]) (h1 : Wh x) (h2 : Wh y)
    (hb1 : ∀ w', Calls Tryz.prog 124 #[x.val, .int .i64 (-99999999999), .int .i64 1048576] w' (Gives w' (.bool p)))
    (hb2 : ∀ w', Calls Tryz.prog 124 #[y.val, .int .i64 0, .int .i64 20] w' (Gives w' (.bool r))) :
    Calls Tryz.prog 37 #[.string ⟨#[66, 73, 84, 82, 83, 72, 73, 70, 84]⟩, .slice (some ⟨b, o, none⟩) 2 c] w (Gives w (.tuple #[.bool (p && r), .bool true])) := by
  have hc1 := fun w' (hw : Ext w w') => every_numeric [x, y] b o c w' (by simp) (hx.ext hw) (fun z hm => by
    rcases List.mem_cons.1 hm with rfl | hm
    · exact h1.kind
    · have e : z = y := by simpa using hm
      subst e; exact h2.kind)
  have HC1 := Lib.hid hc1; clear hc1
  generalize [x, y].all numericOf = q at HC1
  have k1 : (x.k == 2) = false := by rcases h1.kind with h | h <;> rw [h] <;> rfl
  have k2 : (y.k == 2) = false := by rcases h2.kind with h | h <;> rw [h] <;> rfl
  have k3 : ¬ x.k = 2 := by rcases h1.kind with h | h <;> rw [h] <;> decide
  have k4 : ¬ y.k = 2 := by rcases h2.kind with h | h <;> rw [h] <;> decide
  have HX := Lib.hid hx; clear hx h1 h2
  have HB1 := Lib.hid hb1; clear hb1
  have HB2 := Lib.hid hb2; clear hb2
  cases p
  · rw [Bool.false_and]
    cases q
    all_goals
      go_enter Tryz.func37, Tryz.ntmps37
      (go_wp2_with fail; refine (HC1.out _ (by repeat (first | with_reducible exact Below.refl _ _ | with_reducible assumption | ((with_reducible refine Below.setCell ?_ ?_ _); rotate_left; (simp; try omega)) | (with_reducible refine Ext.tr ?_ (by with_reducible assumption)) | (with_reducible refine Ext.al ?_ _) | (with_reducible refine below_drewN ?_ _) | (with_reducible refine Below.drew ?_)))).mono ?_; rintro e w1 ⟨rfl, hb1⟩; obtain ⟨hc1, hf1, hz1⟩ := ext_facts hb1; (try simp at hz1); clear hc1 hf1)
      obtain ⟨c0, c1, c2, c3, c4⟩ := (HX.out.ext (w' := w1) (by repeat (first | with_reducible exact Below.refl _ _ | with_reducible assumption | ((with_reducible refine Below.setCell ?_ ?_ _); rotate_left; (simp; try omega)) | (with_reducible refine Ext.tr ?_ (by with_reducible assumption)) | (with_reducible refine Ext.al ?_ _) | (with_reducible refine below_drewN ?_ _) | (with_reducible refine Below.drew ?_)))) 0 x rfl
      obtain ⟨d0, d1, d2, d3, d4⟩ := (HX.out.ext (w' := w1) (by repeat (first | with_reducible exact Below.refl _ _ | with_reducible assumption | ((with_reducible refine Below.setCell ?_ ?_ _); rotate_left; (simp; try omega)) | (with_reducible refine Ext.tr ?_ (by with_reducible assumption)) | (with_reducible refine Ext.al ?_ _) | (with_reducible refine below_drewN ?_ _) | (with_reducible refine Below.drew ?_)))) 1 y rfl
      simp only [Nat.zero_mul, Nat.add_zero, Nat.one_mul] at c0 c1 c2 c3 c4
      simp only [Nat.one_mul, Nat.add_assoc, Nat.reduceAdd] at d0 d1 d2 d3 d4
      (go_wp2_with fail; refine (HB1.out _).mono ?_; rintro e w2 ⟨rfl, hb2⟩; obtain ⟨hc2, hf2, hz2⟩ := ext_facts hb2; (try simp at hz2); clear hc2 hf2)
      go_wp2
      go_ret2
      exact ⟨rfl, (by repeat (first | with_reducible exact Below.refl _ _ | with_reducible assumption | ((with_reducible refine Below.setCell ?_ ?_ _); rotate_left; (simp; try omega)) | (with_reducible refine Ext.tr ?_ (by with_reducible assumption)) | (with_reducible refine Ext.al ?_ _) | (with_reducible refine below_drewN ?_ _) | (with_reducible refine Below.drew ?_)))⟩
  · rw [Bool.true_and]
    cases r <;> cases q
    all_goals
      go_enter Tryz.func37, Tryz.ntmps37
      (go_wp2_with fail; refine (HC1.out _ (by repeat (first | with_reducible exact Below.refl _ _ | with_reducible assumption | ((with_reducible refine Below.setCell ?_ ?_ _); rotate_left; (simp; try omega)) | (with_reducible refine Ext.tr ?_ (by with_reducible assumption)) | (with_reducible refine Ext.al ?_ _) | (with_reducible refine below_drewN ?_ _) | (with_reducible refine Below.drew ?_)))).mono ?_; rintro e w1 ⟨rfl, hb1⟩; obtain ⟨hc1, hf1, hz1⟩ := ext_facts hb1; (try simp at hz1); clear hc1 hf1)
      obtain ⟨c0, c1, c2, c3, c4⟩ := (HX.out.ext (w' := w1) (by repeat (first | with_reducible exact Below.refl _ _ | with_reducible assumption | ((with_reducible refine Below.setCell ?_ ?_ _); rotate_left; (simp; try omega)) | (with_reducible refine Ext.tr ?_ (by with_reducible assumption)) | (with_reducible refine Ext.al ?_ _) | (with_reducible refine below_drewN ?_ _) | (with_reducible refine Below.drew ?_)))) 0 x rfl
      obtain ⟨d0, d1, d2, d3, d4⟩ := (HX.out.ext (w' := w1) (by repeat (first | with_reducible exact Below.refl _ _ | with_reducible assumption | ((with_reducible refine Below.setCell ?_ ?_ _); rotate_left; (simp; try omega)) | (with_reducible refine Ext.tr ?_ (by with_reducible assumption)) | (with_reducible refine Ext.al ?_ _) | (with_reducible refine below_drewN ?_ _) | (with_reducible refine Below.drew ?_)))) 1 y rfl
      simp only [Nat.zero_mul, Nat.add_zero, Nat.one_mul] at c0 c1 c2 c3 c4
      simp only [Nat.one_mul, Nat.add_assoc, Nat.reduceAdd] at d0 d1 d2 d3 d4
      (go_wp2_with fail; refine (HB1.out _).mono ?_; rintro e w2 ⟨rfl, hb2⟩; obtain ⟨hc2, hf2, hz2⟩ := ext_facts hb2; (try simp at hz2); clear hc2 hf2)
      clear c0 c1 c2 c3 c4 d0 d1 d2 d3 d4
      obtain ⟨d0, d1, d2, d3, d4⟩ := (HX.out.ext (w' := w2) (by repeat (first | with_reducible exact Below.refl _ _ | with_reducible assumption | ((with_reducible refine Below.setCell ?_ ?_ _); rotate_left; (simp; try omega)) | (with_reducible refine Ext.tr ?_ (by with_reducible assumption)) | (with_reducible refine Ext.al ?_ _) | (with_reducible refine below_drewN ?_ _) | (with_reducible refine Below.drew ?_)))) 1 y rfl
      simp only [Nat.one_mul, Nat.add_assoc, Nat.reduceAdd] at d0 d1 d2 d3 d4
      (go_wp2_with fail; refine (HB2.out _).mono ?_; rintro e w3 ⟨rfl, hb3⟩; obtain ⟨hc3, hf3, hz3⟩ := ext_facts hb3; (try simp at hz3); clear hc3 hf3)
      go_wp2
      go_ret2
      refine ⟨?_, (by repeat (first | with_reducible exact Below.refl _ _ | with_reducible assumption | ((with_reducible refine Below.setCell ?_ ?_ _); rotate_left; (simp; try omega)) | (with_reducible refine Ext.tr ?_ (by with_reducible assumption)) | (with_reducible refine Ext.al ?_ _) | (with_reducible refine below_drewN ?_ _) | (with_reducible refine Below.drew ?_)))⟩
      first
        | rfl
        | (show Ending.returned (.tuple #[.bool (x.k != 2 && y.k != 2), .bool true]) = _
           rw [show (x.k != 2) = true by simp [k3], show (y.k != 2) = true by simp [k4]]; rfl)

/-- Whether BITRSHIFT says anything of two arguments. -/
def shOk (x y : Sc) : Bool := numericOf x && (decide (x.n ≤ 1048576) && (numericOf y && (decide (0 ≤ y.n) && decide (y.n ≤ 20))))

theorem fits_shift (x y : Sc) (b o c : Nat) (w : World) (hx : Lie w b o [x, y]) (h1 : Wh x) (h2 : Wh y) :
    Calls Tryz.prog 24 #[.string ⟨#[66, 73, 84, 82, 83, 72, 73, 70, 84]⟩, .slice (some ⟨b, o, none⟩) 2 c] w (Gives w (.bool (shOk x y))) := by
  have key : ∀ (z : Sc) (lo hi : Int), Wh z → ∀ w', Calls Tryz.prog 124 #[z.val, .int .i64 lo, .int .i64 hi] w' (Gives w' (.bool (numericOf z && (decide (lo ≤ z.n) && decide (z.n ≤ hi))))) := by
    intro z lo hi hz w'
    rcases hz with ⟨n, rfl, _⟩ | rfl
    · have h := between_num n 1 lo hi w'
      rwa [show ((1 : Int) == 1) = true from rfl] at h
    · exact between_unsure lo hi w'
  have e : shOk x y = ((numericOf x && (decide (-99999999999 ≤ x.n) && decide (x.n ≤ 1048576))) && (numericOf y && (decide (0 ≤ y.n) && decide (y.n ≤ 20)))) := by
    unfold shOk
    rcases h1 with ⟨n, rfl, q1, q2⟩ | rfl
    · rw [decide_eq_true (show -99999999999 ≤ (⟨1, n, 1, ⟨#[]⟩⟩ : Sc).n from q1), Bool.true_and, Bool.and_assoc]
    · rfl
  rw [e]
  exact fits_of_numbers _ _ _ _ _ w fun w' hw => fitsNumbers_shift x y b o c w' _ _ (hx.ext hw) h1 h2 (key x _ _ h1) (key y _ _ h2)
/-- What BITRSHIFT of two whole numbers is. -/
def shSc (n m : Int) : Sc := if n < 0 then ⟨4, 0, 0, ⟨#[35, 78, 85, 77, 33]⟩⟩ else intSc (n / 2 ^ m.toNat)

set_option maxHeartbeats 1600000 in
theorem bits_shift (n m : Int) (b o c : Nat) (w : World) (hx : Lie w b o [⟨1, n, 1, ⟨#[]⟩⟩, ⟨1, m, 1, ⟨#[]⟩⟩]) (hm : 0 ≤ m) (hm2 : m ≤ 20) :
    Calls Tryz.prog 77 #[.string ⟨#[66, 73, 84, 82, 83, 72, 73, 70, 84]⟩, .slice (some ⟨b, o, none⟩) 2 c] w (Gives w (shSc n m).val) := by
  have HX := Lib.hid hx; clear hx
  by_cases h : n < 0
  · have hs : shSc n m = ⟨4, 0, 0, ⟨#[35, 78, 85, 77, 33]⟩⟩ := if_pos h
    rw [hs]
    clear hs
    go_enter Tryz.func77, Tryz.ntmps77
    go_wp2_with fail
    refine (wholes_ok [⟨1, n, 1, ⟨#[]⟩⟩, ⟨1, m, 1, ⟨#[]⟩⟩] b o c _ (by simp) (HX.out.ext (by repeat (first | with_reducible exact Below.refl _ _ | with_reducible assumption | ((with_reducible refine Below.setCell ?_ ?_ _); rotate_left; (simp; try omega)) | (with_reducible refine Ext.tr ?_ (by with_reducible assumption)) | (with_reducible refine Ext.al ?_ _) | (with_reducible refine below_drewN ?_ _) | (with_reducible refine Below.drew ?_)))) (by simp) (by simp)).mono ?_
    rintro e w1 ⟨v, rfl, hown, hb1⟩
    obtain ⟨hc, hf, hz⟩ := ext_facts hb1; (try simp at hz); (try (have hq : w.heap.size < w1.heap.size := by omega)); (try (have hq' : w.heap.size ≤ w1.heap.size := by omega)); (try (have hr := fun o => hc w.heap.size o (by first | omega | (simp; done) | (simp; omega)))); (try (have hrf := fun o => hf w.heap.size o (by first | omega | (simp; done) | (simp; omega))))
    obtain ⟨g, cap, rfl, hg, hlie⟩ := hown.lie icells_len (by simp)
    have c0 := hlie 0 n rfl 0 _ rfl
    have c1 := hlie 1 m rfl 0 _ rfl
    simp only [Nat.zero_mul, Nat.zero_add, Nat.one_mul, Nat.add_zero] at c0 c1
    have hglt : g < w1.heap.size := lt_of_cell c0
    clear hown hlie
    (go_wp2_with fail; refine (strict_ok [⟨1, n, 1, ⟨#[]⟩⟩, ⟨1, m, 1, ⟨#[]⟩⟩] b o c _ (by simp) (HX.out.ext (by repeat (first | with_reducible exact Below.refl _ _ | with_reducible assumption | ((with_reducible refine Below.setCell ?_ ?_ _); rotate_left; (simp; try omega)) | (with_reducible refine Ext.tr ?_ (by with_reducible assumption)) | (with_reducible refine Ext.al ?_ _) | (with_reducible refine below_drewN ?_ _) | (with_reducible refine Below.drew ?_)))) (by simp)).mono ?_; rintro e w2 ⟨rfl, hb2⟩; obtain ⟨hc2, hf2, hz2⟩ := ext_facts hb2; (try simp at hz2); (have hq2_0 : w.heap.size < w2.heap.size := by omega); (have hl2_0 : w.heap.size ≤ w2.heap.size := by omega); (have hr2_0 := fun o => hc2 (w.heap.size) o (by first | omega | (simp; done) | (simp; omega))); (have hs2_0 := fun o => hf2 (w.heap.size) o (by first | omega | (simp; done) | (simp; omega))); (try simp (disch := first | omega | (simp; omega)) only [World.cell?_alloc_past] at hr2_0); (try simp (disch := first | omega | (simp; omega)) only [World.frozen?_alloc_past] at hs2_0); (have hq2_1 : w1.heap.size < w2.heap.size := by omega); (have hl2_1 : w1.heap.size ≤ w2.heap.size := by omega); (have hr2_1 := fun o => hc2 (w1.heap.size) o (by first | omega | (simp; done) | (simp; omega))); (have hs2_1 := fun o => hf2 (w1.heap.size) o (by first | omega | (simp; done) | (simp; omega))); (try simp (disch := first | omega | (simp; omega)) only [World.cell?_alloc_past] at hr2_1); (try simp (disch := first | omega | (simp; omega)) only [World.frozen?_alloc_past] at hs2_1); (have hq2_2 : g < w2.heap.size := by omega); (have hl2_2 : g ≤ w2.heap.size := by omega); (have hr2_2 := fun o => hc2 (g) o (by first | omega | (simp; done) | (simp; omega))); (have hs2_2 := fun o => hf2 (g) o (by first | omega | (simp; done) | (simp; omega))); (try simp (disch := first | omega | (simp; omega)) only [World.cell?_alloc_past] at hr2_2); (try simp (disch := first | omega | (simp; omega)) only [World.frozen?_alloc_past] at hs2_2); clear hc2 hf2)
    go_wp2_with fail
    go_quiet (fail)
    go_wp2_with (go_at_call 103; refine (err_any _ _).mono ?_; rintro e w1 ⟨rfl, hb⟩; obtain ⟨hc, hf, hz⟩ := ext_facts hb; (try simp at hz); (try (have hq : w.heap.size < w1.heap.size := by omega)); (try (have hq' : w.heap.size ≤ w1.heap.size := by omega)); (try (have hr := fun o => hc w.heap.size o (by first | omega | (simp; done) | (simp; omega)))); (try (have hrf := fun o => hf w.heap.size o (by first | omega | (simp; done) | (simp; omega)))))
    exact bodyPost_ret (v := Sc.val ⟨4, 0, 0, ⟨#[35, 78, 85, 77, 33]⟩⟩) (by simp [results, Tryz.results77, go_sem, *]) rfl ⟨rfl, (by repeat (first | with_reducible exact Below.refl _ _ | with_reducible assumption | ((with_reducible refine Below.setCell ?_ ?_ _); rotate_left; (simp; try omega)) | (with_reducible refine Ext.tr ?_ (by with_reducible assumption)) | (with_reducible refine Ext.al ?_ _) | (with_reducible refine below_drewN ?_ _) | (with_reducible refine Below.drew ?_)))⟩
  · have hs : shSc n m = intSc (n / 2 ^ m.toNat) := if_neg h
    have hn : 0 ≤ n := by omega
    rw [hs]
    clear hs h
    go_enter Tryz.func77, Tryz.ntmps77
    go_wp2_with fail
    refine (wholes_ok [⟨1, n, 1, ⟨#[]⟩⟩, ⟨1, m, 1, ⟨#[]⟩⟩] b o c _ (by simp) (HX.out.ext (by repeat (first | with_reducible exact Below.refl _ _ | with_reducible assumption | ((with_reducible refine Below.setCell ?_ ?_ _); rotate_left; (simp; try omega)) | (with_reducible refine Ext.tr ?_ (by with_reducible assumption)) | (with_reducible refine Ext.al ?_ _) | (with_reducible refine below_drewN ?_ _) | (with_reducible refine Below.drew ?_)))) (by simp) (by simp)).mono ?_
    rintro e w1 ⟨v, rfl, hown, hb1⟩
    obtain ⟨hc, hf, hz⟩ := ext_facts hb1; (try simp at hz); (try (have hq : w.heap.size < w1.heap.size := by omega)); (try (have hq' : w.heap.size ≤ w1.heap.size := by omega)); (try (have hr := fun o => hc w.heap.size o (by first | omega | (simp; done) | (simp; omega)))); (try (have hrf := fun o => hf w.heap.size o (by first | omega | (simp; done) | (simp; omega))))
    obtain ⟨g, cap, rfl, hg, hlie⟩ := hown.lie icells_len (by simp)
    have c0 := hlie 0 n rfl 0 _ rfl
    have c1 := hlie 1 m rfl 0 _ rfl
    simp only [Nat.zero_mul, Nat.zero_add, Nat.one_mul, Nat.add_zero] at c0 c1
    have hglt : g < w1.heap.size := lt_of_cell c0
    clear hown hlie
    (go_wp2_with fail; refine (strict_ok [⟨1, n, 1, ⟨#[]⟩⟩, ⟨1, m, 1, ⟨#[]⟩⟩] b o c _ (by simp) (HX.out.ext (by repeat (first | with_reducible exact Below.refl _ _ | with_reducible assumption | ((with_reducible refine Below.setCell ?_ ?_ _); rotate_left; (simp; try omega)) | (with_reducible refine Ext.tr ?_ (by with_reducible assumption)) | (with_reducible refine Ext.al ?_ _) | (with_reducible refine below_drewN ?_ _) | (with_reducible refine Below.drew ?_)))) (by simp)).mono ?_; rintro e w2 ⟨rfl, hb2⟩; obtain ⟨hc2, hf2, hz2⟩ := ext_facts hb2; (try simp at hz2); (have hq2_0 : w.heap.size < w2.heap.size := by omega); (have hl2_0 : w.heap.size ≤ w2.heap.size := by omega); (have hr2_0 := fun o => hc2 (w.heap.size) o (by first | omega | (simp; done) | (simp; omega))); (have hs2_0 := fun o => hf2 (w.heap.size) o (by first | omega | (simp; done) | (simp; omega))); (try simp (disch := first | omega | (simp; omega)) only [World.cell?_alloc_past] at hr2_0); (try simp (disch := first | omega | (simp; omega)) only [World.frozen?_alloc_past] at hs2_0); (have hq2_1 : w1.heap.size < w2.heap.size := by omega); (have hl2_1 : w1.heap.size ≤ w2.heap.size := by omega); (have hr2_1 := fun o => hc2 (w1.heap.size) o (by first | omega | (simp; done) | (simp; omega))); (have hs2_1 := fun o => hf2 (w1.heap.size) o (by first | omega | (simp; done) | (simp; omega))); (try simp (disch := first | omega | (simp; omega)) only [World.cell?_alloc_past] at hr2_1); (try simp (disch := first | omega | (simp; omega)) only [World.frozen?_alloc_past] at hs2_1); (have hq2_2 : g < w2.heap.size := by omega); (have hl2_2 : g ≤ w2.heap.size := by omega); (have hr2_2 := fun o => hc2 (g) o (by first | omega | (simp; done) | (simp; omega))); (have hs2_2 := fun o => hf2 (g) o (by first | omega | (simp; done) | (simp; omega))); (try simp (disch := first | omega | (simp; omega)) only [World.cell?_alloc_past] at hr2_2); (try simp (disch := first | omega | (simp; omega)) only [World.frozen?_alloc_past] at hs2_2); clear hc2 hf2)
    go_wp2_with fail
    go_quiet (fail)
    go_wp2_with (go_at_call 15; refine (int_any _ _).mono ?_; rintro e w1 ⟨rfl, hb⟩; obtain ⟨hc, hf, hz⟩ := ext_facts hb; (try simp at hz); (try (have hq : w.heap.size < w1.heap.size := by omega)); (try (have hq' : w.heap.size ≤ w1.heap.size := by omega)); (try (have hr := fun o => hc w.heap.size o (by first | omega | (simp; done) | (simp; omega)))); (try (have hrf := fun o => hf w.heap.size o (by first | omega | (simp; done) | (simp; omega)))))
    exact bodyPost_ret (v := Sc.val (intSc (n / 2 ^ m.toNat))) (by simp [results, Tryz.results77, go_sem, *]) rfl ⟨rfl, (by repeat (first | with_reducible exact Below.refl _ _ | with_reducible assumption | ((with_reducible refine Below.setCell ?_ ?_ _); rotate_left; (simp; try omega)) | (with_reducible refine Ext.tr ?_ (by with_reducible assumption)) | (with_reducible refine Ext.al ?_ _) | (with_reducible refine below_drewN ?_ _) | (with_reducible refine Below.drew ?_)))⟩

set_option maxHeartbeats 800000 in
theorem callMath_shift (n m : Int) (b o c : Nat) (w : World) (hx : Lie w b o [⟨1, n, 1, ⟨#[]⟩⟩, ⟨1, m, 1, ⟨#[]⟩⟩]) (hm : 0 ≤ m) (hm2 : m ≤ 20) :
    Calls Tryz.prog 28 #[.string ⟨#[66, 73, 84, 82, 83, 72, 73, 70, 84]⟩, .slice (some ⟨b, o, none⟩) 2 c] w (Gives w (.tuple #[(shSc n m).val, .bool true])) := by
  have HC := Lib.hid (fun w' h => bits_shift n m b o c w' (hx.ext h) hm hm2)
  clear hx
  generalize shSc n m = r at HC ⊢
  go_enter Tryz.func28, Tryz.ntmps28
  (go_wp2_with fail; refine (HC.out _ (by repeat (first | with_reducible exact Below.refl _ _ | with_reducible assumption | ((with_reducible refine Below.setCell ?_ ?_ _); rotate_left; (simp; try omega)) | (with_reducible refine Ext.tr ?_ (by with_reducible assumption)) | (with_reducible refine Ext.al ?_ _) | (with_reducible refine below_drewN ?_ _) | (with_reducible refine Below.drew ?_)))).mono ?_; rintro e w1 ⟨rfl, hb1⟩; obtain ⟨hc1, hf1, hz1⟩ := ext_facts hb1; (try simp at hz1); (have hq1_0 : w.heap.size < w1.heap.size := by omega); (have hl1_0 : w.heap.size ≤ w1.heap.size := by omega); (have hr1_0 := fun o => hc1 (w.heap.size) o (by first | omega | (simp; done) | (simp; omega))); (have hs1_0 := fun o => hf1 (w.heap.size) o (by first | omega | (simp; done) | (simp; omega))); (try simp (disch := first | omega | (simp; omega)) only [World.cell?_alloc_past] at hr1_0); (try simp (disch := first | omega | (simp; omega)) only [World.frozen?_alloc_past] at hs1_0); clear hc1 hf1)
  go_wp2
  exact bodyPost_ret (v := .tuple #[r.val, .bool true]) (by simp [results, Tryz.results28, go_sem, *]) rfl ⟨rfl, (by repeat (first | with_reducible exact Below.refl _ _ | with_reducible assumption | ((with_reducible refine Below.setCell ?_ ?_ _); rotate_left; (simp; try omega)) | (with_reducible refine Ext.tr ?_ (by with_reducible assumption)) | (with_reducible refine Ext.al ?_ _) | (with_reducible refine below_drewN ?_ _) | (with_reducible refine Below.drew ?_)))⟩

theorem callOver_shift (n m : Int) (b o c : Nat) (w : World) (hx : Lie w b o [⟨1, n, 1, ⟨#[]⟩⟩, ⟨1, m, 1, ⟨#[]⟩⟩]) (h1 : -99999999999 ≤ n ∧ n ≤ 99999999999) (h2 : -99999999999 ≤ m ∧ m ≤ 99999999999)
    (h3 : n ≤ 1048576) (hm : 0 ≤ m) (hm2 : m ≤ 20) :
    Calls Tryz.prog 16 #[.string ⟨#[66, 73, 84, 82, 83, 72, 73, 70, 84]⟩, .slice (some ⟨b, o, none⟩) 2 c, .slice (some ⟨b, o, none⟩) 2 c] w (Gives w (shSc n m).val) := by
  refine callOver_math _ (shSc n m) _ _ _ w (fun w' hw => ?_) (fun w' => Stat_BITRSHIFT _ _ _ w') (fun w' => Criteria_BITRSHIFT _ _ _ w') (fun w' => Lookup_BITRSHIFT _ _ _ w') (fun w' hw => callMath_shift n m b o c w' (hx.ext hw) hm hm2)
  have h := fits_shift _ _ b o c w' (hx.ext hw) (Or.inl ⟨n, rfl, h1⟩) (Or.inl ⟨m, rfl, h2⟩)
  rwa [show shOk ⟨1, n, 1, ⟨#[]⟩⟩ ⟨1, m, 1, ⟨#[]⟩⟩ = true by simp [shOk, numericOf, h3, hm, hm2]] at h
end Go.Proofs.YtbflllnbejmnbaaGreatDoor
