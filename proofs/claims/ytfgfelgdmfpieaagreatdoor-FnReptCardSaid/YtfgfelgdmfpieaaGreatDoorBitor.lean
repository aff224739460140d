/-
  BITOR: the reference's side.
-/
import Derived.Test.YtfgfelgdmfpieaaGreatDoorH
namespace Go.Proofs.YtfgfelgdmfpieaaGreatDoor
set_option linter.unusedSimpArgs false
set_option linter.unusedVariables false
open Go Go.RowKit
set_option maxRecDepth 100000

set_option maxHeartbeats 800000 in
theorem Stat_BITOR (a : Option Addr) (n c : Nat) (w : World) : Calls Tryz.prog 27 #[.string ⟨#[66, 73, 84, 79, 82]⟩, .slice a n c] w (Gives w (.tuple #[zeroVal, .bool false])) := by
  go_enter Tryz.func27, Tryz.ntmps27
  go_wp2
  exact bodyPost_ret (v := .tuple #[zeroVal, .bool false]) (by simp [results, Tryz.results27, go_sem, *]) rfl ⟨rfl, (by repeat (first | with_reducible exact Below.refl _ _ | with_reducible assumption | ((with_reducible refine Below.setCell ?_ ?_ _); rotate_left; (simp; try omega)) | (with_reducible refine Ext.tr ?_ (by with_reducible assumption)) | (with_reducible refine Ext.al ?_ _) | (with_reducible refine below_drewN ?_ _) | (with_reducible refine Below.drew ?_)))⟩

set_option maxHeartbeats 800000 in
theorem Criteria_BITOR (a : Option Addr) (n c : Nat) (w : World) : Calls Tryz.prog 28 #[.string ⟨#[66, 73, 84, 79, 82]⟩, .slice a n c] w (Gives w (.tuple #[zeroVal, .bool false])) := by
  go_enter Tryz.func28, Tryz.ntmps28
  go_wp2
  exact bodyPost_ret (v := .tuple #[zeroVal, .bool false]) (by simp [results, Tryz.results28, go_sem, *]) rfl ⟨rfl, (by repeat (first | with_reducible exact Below.refl _ _ | with_reducible assumption | ((with_reducible refine Below.setCell ?_ ?_ _); rotate_left; (simp; try omega)) | (with_reducible refine Ext.tr ?_ (by with_reducible assumption)) | (with_reducible refine Ext.al ?_ _) | (with_reducible refine below_drewN ?_ _) | (with_reducible refine Below.drew ?_)))⟩

set_option maxHeartbeats 800000 in
theorem Lookup_BITOR (a : Option Addr) (n c : Nat) (w : World) : Calls Tryz.prog 29 #[.string ⟨#[66, 73, 84, 79, 82]⟩, .slice a n c] w (Gives w (.tuple #[zeroVal, .bool false])) := by
  go_enter Tryz.func29, Tryz.ntmps29
  go_wp2
  exact bodyPost_ret (v := .tuple #[zeroVal, .bool false]) (by simp [results, Tryz.results29, go_sem, *]) rfl ⟨rfl, (by repeat (first | with_reducible exact Below.refl _ _ | with_reducible assumption | ((with_reducible refine Below.setCell ?_ ?_ _); rotate_left; (simp; try omega)) | (with_reducible refine Ext.tr ?_ (by with_reducible assumption)) | (with_reducible refine Ext.al ?_ _) | (with_reducible refine below_drewN ?_ _) | (with_reducible refine Below.drew ?_)))⟩

/-- A whole number of a law's argument, or the value of which nothing is said. -/
def Wh (x : Sc) : Prop := (∃ n : Int, x = ⟨1, n, 1, ⟨#[]⟩⟩ ∧ -99999999999 ≤ n ∧ n ≤ 99999999999) ∨ x = ⟨6, 0, 0, ⟨#[]⟩⟩

theorem Wh.kind {x : Sc} (h : Wh x) : x.k = 1 ∨ x.k = 6 := by
  rcases h with ⟨n, rfl, _⟩ | rfl
  · exact Or.inl rfl
  · exact Or.inr rfl

set_option maxHeartbeats 400000 in
theorem bitArg (x : Sc) (w : World) (h : Wh x) : Calls Tryz.prog 130 #[x.val] w (Gives w (.bool (numericOf x))) := by
  rcases h with ⟨n, rfl, h1, h2⟩ | rfl
  · have hb := fun w' => between_num n 1 (-99999999999) 99999999999 w'
    rw [show ((1 : Int) == 1 && (decide (-99999999999 ≤ n) && decide (n ≤ 99999999999))) = true by simp [h1, h2]] at hb
    have HB := Lib.hid hb; clear hb
    rw [show numericOf ⟨1, n, 1, ⟨#[]⟩⟩ = true from rfl]
    go_enter Tryz.func130, Tryz.ntmps130
    (go_wp2_with fail; refine (HB.out _).mono ?_; rintro e w1 ⟨rfl, hb1⟩; obtain ⟨hc1, hf1, hz1⟩ := ext_facts hb1; (try simp at hz1); (have hq1_0 : w.heap.size < w1.heap.size := by omega); (have hl1_0 : w.heap.size ≤ w1.heap.size := by omega); (have hr1_0 := fun o => hc1 (w.heap.size) o (by first | omega | (simp; done) | (simp; omega))); (have hs1_0 := fun o => hf1 (w.heap.size) o (by first | omega | (simp; done) | (simp; omega))); (try simp (disch := first | omega | (simp; omega)) only [World.cell?_alloc_past, World.cell?_drew] at hr1_0); (try simp (disch := first | omega | (simp; omega)) only [World.frozen?_alloc_past, World.frozen?_drew] at hs1_0); clear hc1 hf1)
    go_wp2
    exact bodyPost_ret (v := .bool true) (by simp [results, Tryz.results130, go_sem, *]) rfl ⟨rfl, (by repeat (first | with_reducible exact Below.refl _ _ | with_reducible assumption | ((with_reducible refine Below.setCell ?_ ?_ _); rotate_left; (simp; try omega)) | (with_reducible refine Ext.tr ?_ (by with_reducible assumption)) | (with_reducible refine Ext.al ?_ _) | (with_reducible refine below_drewN ?_ _) | (with_reducible refine Below.drew ?_)))⟩
  · rw [show numericOf ⟨6, 0, 0, ⟨#[]⟩⟩ = false from rfl]
    go_enter Tryz.func130, Tryz.ntmps130
    (go_wp2_with fail; refine (between_unsure _ _ _).mono ?_; rintro e w1 ⟨rfl, hb1⟩; obtain ⟨hc1, hf1, hz1⟩ := ext_facts hb1; (try simp at hz1); (have hq1_0 : w.heap.size < w1.heap.size := by omega); (have hl1_0 : w.heap.size ≤ w1.heap.size := by omega); (have hr1_0 := fun o => hc1 (w.heap.size) o (by first | omega | (simp; done) | (simp; omega))); (have hs1_0 := fun o => hf1 (w.heap.size) o (by first | omega | (simp; done) | (simp; omega))); (try simp (disch := first | omega | (simp; omega)) only [World.cell?_alloc_past, World.cell?_drew] at hr1_0); (try simp (disch := first | omega | (simp; omega)) only [World.frozen?_alloc_past, World.frozen?_drew] at hs1_0); clear hc1 hf1)
    go_wp2
    exact bodyPost_ret (v := .bool false) (by simp [results, Tryz.results130, go_sem, *]) rfl ⟨rfl, (by repeat (first | with_reducible exact Below.refl _ _ | with_reducible assumption | ((with_reducible refine Below.setCell ?_ ?_ _); rotate_left; (simp; try omega)) | (with_reducible refine Ext.tr ?_ (by with_reducible assumption)) | (with_reducible refine Ext.al ?_ _) | (with_reducible refine below_drewN ?_ _) | (with_reducible refine Below.drew ?_)))⟩

set_option maxHeartbeats 800000 in
theorem fitsNumbers_bitor (xs : List Sc) (b o c : Nat) (w : World) (hl : xs.length = 2) (hx : Lie w b o xs) (h : ∀ x ∈ xs, Wh x) :
    Calls Tryz.prog 47 #[.string ⟨#[66, 73, 84, 79, 82]⟩, .slice (some ⟨b, o, none⟩) 2 c] w (Gives w (.tuple #[.bool (xs.all numericOf), .bool true])) := by
  have hc1 := fun w' (hw : Ext w w') => every_numeric xs b o c w' (by rw [hl]; decide) (hx.ext hw) (fun x hm => (h x hm).kind)
  have hc2 := fun w' (hw : Ext w w') => every_ok numericOf xs b o c w' (by rw [hl]; decide) (hx.ext hw) 130 (fun args w => Tryz.call130 args w) fun x w' hm _ => bitArg x w' (h x hm)
  rw [hl] at hc1 hc2
  have HC1 := Lib.hid hc1; have HC2 := Lib.hid hc2; clear hl hx h hc1 hc2
  generalize xs.all numericOf = r at HC1 HC2 ⊢
  cases r
  all_goals
    go_enter Tryz.func47, Tryz.ntmps47
    (go_wp2_with fail; refine (HC1.out _ (by repeat (first | with_reducible exact Below.refl _ _ | with_reducible assumption | ((with_reducible refine Below.setCell ?_ ?_ _); rotate_left; (simp; try omega)) | (with_reducible refine Ext.tr ?_ (by with_reducible assumption)) | (with_reducible refine Ext.al ?_ _) | (with_reducible refine below_drewN ?_ _) | (with_reducible refine Below.drew ?_)))).mono ?_; rintro e w1 ⟨rfl, hb1⟩; obtain ⟨hc1, hf1, hz1⟩ := ext_facts hb1; (try simp at hz1); clear hc1 hf1)
    (go_wp2_with fail; refine (HC2.out _ (by repeat (first | with_reducible exact Below.refl _ _ | with_reducible assumption | ((with_reducible refine Below.setCell ?_ ?_ _); rotate_left; (simp; try omega)) | (with_reducible refine Ext.tr ?_ (by with_reducible assumption)) | (with_reducible refine Ext.al ?_ _) | (with_reducible refine below_drewN ?_ _) | (with_reducible refine Below.drew ?_)))).mono ?_; rintro e w2 ⟨rfl, hb2⟩; obtain ⟨hc2, hf2, hz2⟩ := ext_facts hb2; (try simp at hz2); clear hc2 hf2)
    go_wp2
    go_ret2
    exact ⟨rfl, (by repeat (first | with_reducible exact Below.refl _ _ | with_reducible assumption | ((with_reducible refine Below.setCell ?_ ?_ _); rotate_left; (simp; try omega)) | (with_reducible refine Ext.tr ?_ (by with_reducible assumption)) | (with_reducible refine Ext.al ?_ _) | (with_reducible refine below_drewN ?_ _) | (with_reducible refine Below.drew ?_)))⟩

theorem fits_bitor (x y : Sc) (b o c : Nat) (w : World) (hx : Lie w b o [x, y]) (h1 : Wh x) (h2 : Wh y) :
    Calls Tryz.prog 26 #[.string ⟨#[66, 73, 84, 79, 82]⟩, .slice (some ⟨b, o, none⟩) 2 c] w (Gives w (.bool (numericOf x && numericOf y))) := by
  have e : (numericOf x && numericOf y) = [x, y].all numericOf := by simp
  rw [e]
  refine fits_of_numbers _ _ _ _ _ w fun w' hw => fitsNumbers_bitor [x, y] b o c w' rfl (hx.ext hw) ?_
  intro z hz
  rcases List.mem_cons.1 hz with rfl | hz
  · exact h1
  · have e : z = y := by simpa using hz
    subst e; exact h2

/-- A whole number as the reference keeps it. -/
def intSc (n : Int) : Sc := if -99999999999 ≤ n ∧ n ≤ 99999999999 then ⟨1, n, 1, ⟨#[]⟩⟩ else ⟨6, 0, 0, ⟨#[]⟩⟩

theorem int_any (n : Int) (w : World) : Calls Tryz.prog 17 #[.int .i64 n] w (Gives w (intSc n).val) := by
  by_cases h : -99999999999 ≤ n ∧ n ≤ 99999999999
  · unfold intSc; rw [if_pos h]; exact int_ok n w (by omega) (by omega)
  · unfold intSc; rw [if_neg h]; exact int_big n w (by omega)

/-- What BITOR of two whole numbers is. -/
def orSc (n m : Int) : Sc := if n < 0 ∨ m < 0 then ⟨4, 0, 0, ⟨#[35, 78, 85, 77, 33]⟩⟩ else intSc (bits BinOp.or IntKind.i64 n m)

set_option maxHeartbeats 1600000 in
theorem bits_bitor (n m : Int) (b o c : Nat) (w : World) (hx : Lie w b o [⟨1, n, 1, ⟨#[]⟩⟩, ⟨1, m, 1, ⟨#[]⟩⟩]) :
    Calls Tryz.prog 87 #[.string ⟨#[66, 73, 84, 79, 82]⟩, .slice (some ⟨b, o, none⟩) 2 c] w (Gives w (orSc n m).val) := by
  have HX := Lib.hid hx; clear hx
  by_cases h : n < 0 ∨ m < 0
  · have hs : orSc n m = ⟨4, 0, 0, ⟨#[35, 78, 85, 77, 33]⟩⟩ := if_pos h
    rw [hs]
    clear hs
    go_enter Tryz.func87, Tryz.ntmps87
    go_wp2_with fail
    refine (wholes_ok [⟨1, n, 1, ⟨#[]⟩⟩, ⟨1, m, 1, ⟨#[]⟩⟩] b o c _ (by simp) (HX.out.ext (by repeat (first | with_reducible exact Below.refl _ _ | with_reducible assumption | ((with_reducible refine Below.setCell ?_ ?_ _); rotate_left; (simp; try omega)) | (with_reducible refine Ext.tr ?_ (by with_reducible assumption)) | (with_reducible refine Ext.al ?_ _) | (with_reducible refine below_drewN ?_ _) | (with_reducible refine Below.drew ?_)))) (by simp) (by simp)).mono ?_
    rintro e w1 ⟨v, rfl, hown, hb1⟩
    obtain ⟨hc, hf, hz⟩ := ext_facts hb1; (try simp at hz); (try (have hq : w.heap.size < w1.heap.size := by omega)); (try (have hq' : w.heap.size ≤ w1.heap.size := by omega)); (try (have hr := fun o => hc w.heap.size o (by first | omega | (simp; done) | (simp; omega)))); (try (have hrf := fun o => hf w.heap.size o (by first | omega | (simp; done) | (simp; omega))))
    obtain ⟨g, cap, rfl, hg, hlie⟩ := hown.lie icells_len (by simp)
    have c0 := hlie 0 n rfl 0 _ rfl
    have c1 := hlie 1 m rfl 0 _ rfl
    simp only [Nat.zero_mul, Nat.zero_add, Nat.one_mul, Nat.add_zero] at c0 c1
    have hglt : g < w1.heap.size := lt_of_cell c0
    clear hown hlie
    (go_wp2_with fail; refine (strict_ok [⟨1, n, 1, ⟨#[]⟩⟩, ⟨1, m, 1, ⟨#[]⟩⟩] b o c _ (by simp) (HX.out.ext (by repeat (first | with_reducible exact Below.refl _ _ | with_reducible assumption | ((with_reducible refine Below.setCell ?_ ?_ _); rotate_left; (simp; try omega)) | (with_reducible refine Ext.tr ?_ (by with_reducible assumption)) | (with_reducible refine Ext.al ?_ _) | (with_reducible refine below_drewN ?_ _) | (with_reducible refine Below.drew ?_)))) (by simp)).mono ?_; rintro e w2 ⟨rfl, hb2⟩; obtain ⟨hc2, hf2, hz2⟩ := ext_facts hb2; (try simp at hz2); (have hq2_0 : w.heap.size < w2.heap.size := by omega); (have hl2_0 : w.heap.size ≤ w2.heap.size := by omega); (have hr2_0 := fun o => hc2 (w.heap.size) o (by first | omega | (simp; done) | (simp; omega))); (have hs2_0 := fun o => hf2 (w.heap.size) o (by first | omega | (simp; done) | (simp; omega))); (try simp (disch := first | omega | (simp; omega)) only [World.cell?_alloc_past, World.cell?_drew] at hr2_0); (try simp (disch := first | omega | (simp; omega)) only [World.frozen?_alloc_past, World.frozen?_drew] at hs2_0); (have hq2_1 : w1.heap.size < w2.heap.size := by omega); (have hl2_1 : w1.heap.size ≤ w2.heap.size := by omega); (have hr2_1 := fun o => hc2 (w1.heap.size) o (by first | omega | (simp; done) | (simp; omega))); (have hs2_1 := fun o => hf2 (w1.heap.size) o (by first | omega | (simp; done) | (simp; omega))); (try simp (disch := first | omega | (simp; omega)) only [World.cell?_alloc_past, World.cell?_drew] at hr2_1); (try simp (disch := first | omega | (simp; omega)) only [World.frozen?_alloc_past, World.frozen?_drew] at hs2_1); (have hq2_2 : g < w2.heap.size := by omega); (have hl2_2 : g ≤ w2.heap.size := by omega); (have hr2_2 := fun o => hc2 (g) o (by first | omega | (simp; done) | (simp; omega))); (have hs2_2 := fun o => hf2 (g) o (by first | omega | (simp; done) | (simp; omega))); (try simp (disch := first | omega | (simp; omega)) only [World.cell?_alloc_past, World.cell?_drew] at hr2_2); (try simp (disch := first | omega | (simp; omega)) only [World.frozen?_alloc_past, World.frozen?_drew] at hs2_2); clear hc2 hf2)
    go_wp2_with fail
    go_quiet (fail)
    by_cases hn : n < 0
    · go_wp2_with (go_at_call 113; refine (err_any _ _).mono ?_; rintro e w1 ⟨rfl, hb⟩; obtain ⟨hc, hf, hz⟩ := ext_facts hb; (try simp at hz); (try (have hq : w.heap.size < w1.heap.size := by omega)); (try (have hq' : w.heap.size ≤ w1.heap.size := by omega)); (try (have hr := fun o => hc w.heap.size o (by first | omega | (simp; done) | (simp; omega)))); (try (have hrf := fun o => hf w.heap.size o (by first | omega | (simp; done) | (simp; omega)))))
      exact bodyPost_ret (v := Sc.val ⟨4, 0, 0, ⟨#[35, 78, 85, 77, 33]⟩⟩) (by simp [results, Tryz.results87, go_sem, *]) rfl ⟨rfl, (by repeat (first | with_reducible exact Below.refl _ _ | with_reducible assumption | ((with_reducible refine Below.setCell ?_ ?_ _); rotate_left; (simp; try omega)) | (with_reducible refine Ext.tr ?_ (by with_reducible assumption)) | (with_reducible refine Ext.al ?_ _) | (with_reducible refine below_drewN ?_ _) | (with_reducible refine Below.drew ?_)))⟩
    · have hm : m < 0 := by omega
      go_wp2_with (go_at_call 113; refine (err_any _ _).mono ?_; rintro e w1 ⟨rfl, hb⟩; obtain ⟨hc, hf, hz⟩ := ext_facts hb; (try simp at hz); (try (have hq : w.heap.size < w1.heap.size := by omega)); (try (have hq' : w.heap.size ≤ w1.heap.size := by omega)); (try (have hr := fun o => hc w.heap.size o (by first | omega | (simp; done) | (simp; omega)))); (try (have hrf := fun o => hf w.heap.size o (by first | omega | (simp; done) | (simp; omega)))))
      exact bodyPost_ret (v := Sc.val ⟨4, 0, 0, ⟨#[35, 78, 85, 77, 33]⟩⟩) (by simp [results, Tryz.results87, go_sem, *]) rfl ⟨rfl, (by repeat (first | with_reducible exact Below.refl _ _ | with_reducible assumption | ((with_reducible refine Below.setCell ?_ ?_ _); rotate_left; (simp; try omega)) | (with_reducible refine Ext.tr ?_ (by with_reducible assumption)) | (with_reducible refine Ext.al ?_ _) | (with_reducible refine below_drewN ?_ _) | (with_reducible refine Below.drew ?_)))⟩
  · have hs : orSc n m = intSc (bits BinOp.or IntKind.i64 n m) := if_neg h
    have hn : 0 ≤ n := by omega
    have hm : 0 ≤ m := by omega
    rw [hs]
    clear hs h
    go_enter Tryz.func87, Tryz.ntmps87
    go_wp2_with fail
    refine (wholes_ok [⟨1, n, 1, ⟨#[]⟩⟩, ⟨1, m, 1, ⟨#[]⟩⟩] b o c _ (by simp) (HX.out.ext (by repeat (first | with_reducible exact Below.refl _ _ | with_reducible assumption | ((with_reducible refine Below.setCell ?_ ?_ _); rotate_left; (simp; try omega)) | (with_reducible refine Ext.tr ?_ (by with_reducible assumption)) | (with_reducible refine Ext.al ?_ _) | (with_reducible refine below_drewN ?_ _) | (with_reducible refine Below.drew ?_)))) (by simp) (by simp)).mono ?_
    rintro e w1 ⟨v, rfl, hown, hb1⟩
    obtain ⟨hc, hf, hz⟩ := ext_facts hb1; (try simp at hz); (try (have hq : w.heap.size < w1.heap.size := by omega)); (try (have hq' : w.heap.size ≤ w1.heap.size := by omega)); (try (have hr := fun o => hc w.heap.size o (by first | omega | (simp; done) | (simp; omega)))); (try (have hrf := fun o => hf w.heap.size o (by first | omega | (simp; done) | (simp; omega))))
    obtain ⟨g, cap, rfl, hg, hlie⟩ := hown.lie icells_len (by simp)
    have c0 := hlie 0 n rfl 0 _ rfl
    have c1 := hlie 1 m rfl 0 _ rfl
    simp only [Nat.zero_mul, Nat.zero_add, Nat.one_mul, Nat.add_zero] at c0 c1
    have hglt : g < w1.heap.size := lt_of_cell c0
    clear hown hlie
    (go_wp2_with fail; refine (strict_ok [⟨1, n, 1, ⟨#[]⟩⟩, ⟨1, m, 1, ⟨#[]⟩⟩] b o c _ (by simp) (HX.out.ext (by repeat (first | with_reducible exact Below.refl _ _ | with_reducible assumption | ((with_reducible refine Below.setCell ?_ ?_ _); rotate_left; (simp; try omega)) | (with_reducible refine Ext.tr ?_ (by with_reducible assumption)) | (with_reducible refine Ext.al ?_ _) | (with_reducible refine below_drewN ?_ _) | (with_reducible refine Below.drew ?_)))) (by simp)).mono ?_; rintro e w2 ⟨rfl, hb2⟩; obtain ⟨hc2, hf2, hz2⟩ := ext_facts hb2; (try simp at hz2); (have hq2_0 : w.heap.size < w2.heap.size := by omega); (have hl2_0 : w.heap.size ≤ w2.heap.size := by omega); (have hr2_0 := fun o => hc2 (w.heap.size) o (by first | omega | (simp; done) | (simp; omega))); (have hs2_0 := fun o => hf2 (w.heap.size) o (by first | omega | (simp; done) | (simp; omega))); (try simp (disch := first | omega | (simp; omega)) only [World.cell?_alloc_past, World.cell?_drew] at hr2_0); (try simp (disch := first | omega | (simp; omega)) only [World.frozen?_alloc_past, World.frozen?_drew] at hs2_0); (have hq2_1 : w1.heap.size < w2.heap.size := by omega); (have hl2_1 : w1.heap.size ≤ w2.heap.size := by omega); (have hr2_1 := fun o => hc2 (w1.heap.size) o (by first | omega | (simp; done) | (simp; omega))); (have hs2_1 := fun o => hf2 (w1.heap.size) o (by first | omega | (simp; done) | (simp; omega))); (try simp (disch := first | omega | (simp; omega)) only [World.cell?_alloc_past, World.cell?_drew] at hr2_1); (try simp (disch := first | omega | (simp; omega)) only [World.frozen?_alloc_past, World.frozen?_drew] at hs2_1); (have hq2_2 : g < w2.heap.size := by omega); (have hl2_2 : g ≤ w2.heap.size := by omega); (have hr2_2 := fun o => hc2 (g) o (by first | omega | (simp; done) | (simp; omega))); (have hs2_2 := fun o => hf2 (g) o (by first | omega | (simp; done) | (simp; omega))); (try simp (disch := first | omega | (simp; omega)) only [World.cell?_alloc_past, World.cell?_drew] at hr2_2); (try simp (disch := first | omega | (simp; omega)) only [World.frozen?_alloc_past, World.frozen?_drew] at hs2_2); clear hc2 hf2)
    go_wp2_with fail
    go_quiet (fail)
    go_wp2_with (go_at_call 17; refine (int_any _ _).mono ?_; rintro e w1 ⟨rfl, hb⟩; obtain ⟨hc, hf, hz⟩ := ext_facts hb; (try simp at hz); (try (have hq : w.heap.size < w1.heap.size := by omega)); (try (have hq' : w.heap.size ≤ w1.heap.size := by omega)); (try (have hr := fun o => hc w.heap.size o (by first | omega | (simp; done) | (simp; omega)))); (try (have hrf := fun o => hf w.heap.size o (by first | omega | (simp; done) | (simp; omega)))))
    exact bodyPost_ret (v := Sc.val (intSc (bits BinOp.or IntKind.i64 n m))) (by simp [results, Tryz.results87, go_sem, *]) rfl ⟨rfl, (by repeat (first | with_reducible exact Below.refl _ _ | with_reducible assumption | ((with_reducible refine Below.setCell ?_ ?_ _); rotate_left; (simp; try omega)) | (with_reducible refine Ext.tr ?_ (by with_reducible assumption)) | (with_reducible refine Ext.al ?_ _) | (with_reducible refine below_drewN ?_ _) | (with_reducible refine Below.drew ?_)))⟩

set_option maxHeartbeats 800000 in
theorem callMath_bitor (n m : Int) (b o c : Nat) (w : World) (hx : Lie w b o [⟨1, n, 1, ⟨#[]⟩⟩, ⟨1, m, 1, ⟨#[]⟩⟩]) :
    Calls Tryz.prog 30 #[.string ⟨#[66, 73, 84, 79, 82]⟩, .slice (some ⟨b, o, none⟩) 2 c] w (Gives w (.tuple #[(orSc n m).val, .bool true])) := by
  have HC := Lib.hid (fun w' h => bits_bitor n m b o c w' (hx.ext h))
  clear hx
  generalize orSc n m = r at HC ⊢
  go_enter Tryz.func30, Tryz.ntmps30
  (go_wp2_with fail; refine (HC.out _ (by repeat (first | with_reducible exact Below.refl _ _ | with_reducible assumption | ((with_reducible refine Below.setCell ?_ ?_ _); rotate_left; (simp; try omega)) | (with_reducible refine Ext.tr ?_ (by with_reducible assumption)) | (with_reducible refine Ext.al ?_ _) | (with_reducible refine below_drewN ?_ _) | (with_reducible refine Below.drew ?_)))).mono ?_; rintro e w1 ⟨rfl, hb1⟩; obtain ⟨hc1, hf1, hz1⟩ := ext_facts hb1; (try simp at hz1); (have hq1_0 : w.heap.size < w1.heap.size := by omega); (have hl1_0 : w.heap.size ≤ w1.heap.size := by omega); (have hr1_0 := fun o => hc1 (w.heap.size) o (by first | omega | (simp; done) | (simp; omega))); (have hs1_0 := fun o => hf1 (w.heap.size) o (by first | omega | (simp; done) | (simp; omega))); (try simp (disch := first | omega | (simp; omega)) only [World.cell?_alloc_past, World.cell?_drew] at hr1_0); (try simp (disch := first | omega | (simp; omega)) only [World.frozen?_alloc_past, World.frozen?_drew] at hs1_0); clear hc1 hf1)
  go_wp2
  exact bodyPost_ret (v := .tuple #[r.val, .bool true]) (by simp [results, Tryz.results30, go_sem, *]) rfl ⟨rfl, (by repeat (first | with_reducible exact Below.refl _ _ | with_reducible assumption | ((with_reducible refine Below.setCell ?_ ?_ _); rotate_left; (simp; try omega)) | (with_reducible refine Ext.tr ?_ (by with_reducible assumption)) | (with_reducible refine Ext.al ?_ _) | (with_reducible refine below_drewN ?_ _) | (with_reducible refine Below.drew ?_)))⟩

theorem callOver_bitor (n m : Int) (b o c : Nat) (w : World) (hx : Lie w b o [⟨1, n, 1, ⟨#[]⟩⟩, ⟨1, m, 1, ⟨#[]⟩⟩]) (h1 : -99999999999 ≤ n ∧ n ≤ 99999999999) (h2 : -99999999999 ≤ m ∧ m ≤ 99999999999) :
    Calls Tryz.prog 18 #[.string ⟨#[66, 73, 84, 79, 82]⟩, .slice (some ⟨b, o, none⟩) 2 c, .slice (some ⟨b, o, none⟩) 2 c] w (Gives w (orSc n m).val) := by
  refine callOver_math _ (orSc n m) _ _ _ w (fun w' hw => ?_) (fun w' => Stat_BITOR _ _ _ w') (fun w' => Criteria_BITOR _ _ _ w') (fun w' => Lookup_BITOR _ _ _ w') (fun w' hw => callMath_bitor n m b o c w' (hx.ext hw))
  exact fits_bitor _ _ b o c w' (hx.ext hw) (Or.inl ⟨n, rfl, h1⟩) (Or.inl ⟨m, rfl, h2⟩)
end Go.Proofs.YtfgfelgdmfpieaaGreatDoor
