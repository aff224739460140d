/-
  IF: Fits of the reference.
-/
import Derived.Test.YtcknddfpcfhdpaaGreatDoorIf
namespace Go.Proofs.YtcknddfpcfhdpaaGreatDoor
set_option linter.unusedSimpArgs false
set_option linter.unusedVariables false
open Go Go.RowKit
set_option maxRecDepth 100000

set_option maxHeartbeats 800000 in
theorem fitsNumbers_if_2 (xs : List Sc) (b o c : Nat) (w : World) (hl : xs.length = 2) (hx : Lie w b o xs) (h : ∀ x ∈ xs, Wh x) :
    Calls Tryz.prog 47 #[.string ⟨#[73, 70]⟩, .slice (some ⟨b, o, none⟩) 2 c] w (Gives w (.tuple #[.bool false, .bool false])) := by
  have hc1 := fun w' (hw : Ext w w') => every_numeric xs b o c w' (by rw [hl]; decide) (hx.ext hw) (fun x hm => (h x hm).kind)
  rw [hl] at hc1
  have HC1 := Lib.hid hc1; clear hl hx h hc1
  generalize xs.all numericOf = r at HC1
  go_enter Tryz.func47, Tryz.ntmps47
  (go_wp2_with fail; refine (HC1.out _ (by repeat (first | with_reducible exact Below.refl _ _ | with_reducible assumption | ((with_reducible refine Below.setCell ?_ ?_ _); rotate_left; (simp; try omega)) | (with_reducible refine Ext.tr ?_ (by with_reducible assumption)) | (with_reducible refine Ext.al ?_ _) | (with_reducible refine below_drewN ?_ _) | (with_reducible refine Below.drew ?_)))).mono ?_; rintro e w1 ⟨rfl, hb1⟩; obtain ⟨hc1, hf1, hz1⟩ := ext_facts hb1; (try simp at hz1); clear hc1 hf1)
  go_wp2
  go_ret2
  exact ⟨rfl, (by repeat (first | with_reducible exact Below.refl _ _ | with_reducible assumption | ((with_reducible refine Below.setCell ?_ ?_ _); rotate_left; (simp; try omega)) | (with_reducible refine Ext.tr ?_ (by with_reducible assumption)) | (with_reducible refine Ext.al ?_ _) | (with_reducible refine below_drewN ?_ _) | (with_reducible refine Below.drew ?_)))⟩

set_option maxHeartbeats 800000 in
theorem fitsChoices_if_2 (x : Sc) (xs : List Sc) (b c : Nat) (w : World) (hl : xs.length = 1) (hx : Lie w b 0 (x :: xs)) (hc : 2 ≤ c) (h : Wh x) (hs : ∀ x ∈ xs, Wh x) :
    Calls Tryz.prog 49 #[.string ⟨#[73, 70]⟩, .slice (some ⟨b, 0, none⟩) 2 c] w (Gives w (.tuple #[.bool (isCond x && xs.all numericOf), .bool true])) := by
  have htail : Lie w b 5 xs := fun i y hy => by
    have := hx (i + 1) y (by simpa using hy)
    rwa [show 0 + (i + 1) * 5 = 5 + i * 5 by omega] at this
  have hch := fun w' => choice_wh x w' h
  have hev := fun w' (hw : Ext w w') (c' : Nat) => every_ok numericOf xs b 5 c' w' (by rw [hl]; decide) (htail.ext hw) 141 (fun args w => Tryz.call141 args w) fun x w' hm _ => ifArg x w' (hs x hm)
  rw [hl] at hev
  obtain ⟨c0, c1, c2, c3, c4⟩ := hx.head (i := 0) rfl
  simp only [Nat.zero_mul, Nat.zero_add] at c0 c1 c2 c3 c4
  have hk4 : ¬ x.k = 4 := by rcases h.kind with h | h <;> rw [h] <;> decide
  have hk4b : (x.k == 4) = false := by simpa using hk4
  have hblt : b < w.heap.size := lt_of_cell c0
  have HX := Lib.hid hx
  have HCH := Lib.hid hch; have HEV := Lib.hid hev; clear hch hev htail hx h hs
  generalize isCond x = p at HCH ⊢
  generalize xs.all numericOf = r at HEV ⊢
  cases p
  · rw [Bool.false_and]
    go_enter Tryz.func49, Tryz.ntmps49
    (go_wp2_with fail; refine (HCH.out _).mono ?_; rintro e w1 ⟨rfl, hb1⟩; obtain ⟨hc1, hf1, hz1⟩ := ext_facts hb1; (try simp at hz1); (have hq1_0 : b < w1.heap.size := by omega); (have hl1_0 : b ≤ w1.heap.size := by omega); (have hr1_0 := fun o => hc1 (b) o (by first | omega | (simp; done) | (simp; omega))); (have hs1_0 := fun o => hf1 (b) o (by first | omega | (simp; done) | (simp; omega))); (try simp (disch := first | omega | (simp; omega)) only [World.cell?_alloc_past, World.cell?_drew] at hr1_0); (try simp (disch := first | omega | (simp; omega)) only [World.frozen?_alloc_past, World.frozen?_drew] at hs1_0); clear hc1 hf1)
    go_wp2
    go_ret2
    exact ⟨rfl, (by repeat (first | with_reducible exact Below.refl _ _ | with_reducible assumption | ((with_reducible refine Below.setCell ?_ ?_ _); rotate_left; (simp; try omega)) | (with_reducible refine Ext.tr ?_ (by with_reducible assumption)) | (with_reducible refine Ext.al ?_ _) | (with_reducible refine below_drewN ?_ _) | (with_reducible refine Below.drew ?_)))⟩
  · rw [Bool.true_and]
    cases r
    all_goals
      go_enter Tryz.func49, Tryz.ntmps49
      (go_wp2_with fail; refine (HCH.out _).mono ?_; rintro e w1 ⟨rfl, hb1⟩; obtain ⟨hc1, hf1, hz1⟩ := ext_facts hb1; (try simp at hz1); (have hq1_0 : b < w1.heap.size := by omega); (have hl1_0 : b ≤ w1.heap.size := by omega); (have hr1_0 := fun o => hc1 (b) o (by first | omega | (simp; done) | (simp; omega))); (have hs1_0 := fun o => hf1 (b) o (by first | omega | (simp; done) | (simp; omega))); (try simp (disch := first | omega | (simp; omega)) only [World.cell?_alloc_past, World.cell?_drew] at hr1_0); (try simp (disch := first | omega | (simp; omega)) only [World.frozen?_alloc_past, World.frozen?_drew] at hs1_0); clear hc1 hf1)
      (go_wp2_with fail; refine (HEV.out _ (by repeat (first | with_reducible exact Below.refl _ _ | with_reducible assumption | ((with_reducible refine Below.setCell ?_ ?_ _); rotate_left; (simp; try omega)) | (with_reducible refine Ext.tr ?_ (by with_reducible assumption)) | (with_reducible refine Ext.al ?_ _) | (with_reducible refine below_drewN ?_ _) | (with_reducible refine Below.drew ?_))) _).mono ?_; rintro e w2 ⟨rfl, hb2⟩; obtain ⟨hc2, hf2, hz2⟩ := ext_facts hb2; (try simp at hz2); clear hc2 hf2)
      go_wp2
      go_ret2
      exact ⟨rfl, (by repeat (first | with_reducible exact Below.refl _ _ | with_reducible assumption | ((with_reducible refine Below.setCell ?_ ?_ _); rotate_left; (simp; try omega)) | (with_reducible refine Ext.tr ?_ (by with_reducible assumption)) | (with_reducible refine Ext.al ?_ _) | (with_reducible refine below_drewN ?_ _) | (with_reducible refine Below.drew ?_)))⟩

set_option maxHeartbeats 800000 in
theorem fitsNumbers_if_3 (xs : List Sc) (b o c : Nat) (w : World) (hl : xs.length = 3) (hx : Lie w b o xs) (h : ∀ x ∈ xs, Wh x) :
    Calls Tryz.prog 47 #[.string ⟨#[73, 70]⟩, .slice (some ⟨b, o, none⟩) 3 c] w (Gives w (.tuple #[.bool false, .bool false])) := by
  have hc1 := fun w' (hw : Ext w w') => every_numeric xs b o c w' (by rw [hl]; decide) (hx.ext hw) (fun x hm => (h x hm).kind)
  rw [hl] at hc1
  have HC1 := Lib.hid hc1; clear hl hx h hc1
  generalize xs.all numericOf = r at HC1
  go_enter Tryz.func47, Tryz.ntmps47
  (go_wp2_with fail; refine (HC1.out _ (by repeat (first | with_reducible exact Below.refl _ _ | with_reducible assumption | ((with_reducible refine Below.setCell ?_ ?_ _); rotate_left; (simp; try omega)) | (with_reducible refine Ext.tr ?_ (by with_reducible assumption)) | (with_reducible refine Ext.al ?_ _) | (with_reducible refine below_drewN ?_ _) | (with_reducible refine Below.drew ?_)))).mono ?_; rintro e w1 ⟨rfl, hb1⟩; obtain ⟨hc1, hf1, hz1⟩ := ext_facts hb1; (try simp at hz1); clear hc1 hf1)
  go_wp2
  go_ret2
  exact ⟨rfl, (by repeat (first | with_reducible exact Below.refl _ _ | with_reducible assumption | ((with_reducible refine Below.setCell ?_ ?_ _); rotate_left; (simp; try omega)) | (with_reducible refine Ext.tr ?_ (by with_reducible assumption)) | (with_reducible refine Ext.al ?_ _) | (with_reducible refine below_drewN ?_ _) | (with_reducible refine Below.drew ?_)))⟩

set_option maxHeartbeats 800000 in
theorem fitsChoices_if_3 (x : Sc) (xs : List Sc) (b c : Nat) (w : World) (hl : xs.length = 2) (hx : Lie w b 0 (x :: xs)) (hc : 3 ≤ c) (h : Wh x) (hs : ∀ x ∈ xs, Wh x) :
    Calls Tryz.prog 49 #[.string ⟨#[73, 70]⟩, .slice (some ⟨b, 0, none⟩) 3 c] w (Gives w (.tuple #[.bool (isCond x && xs.all numericOf), .bool true])) := by
  have htail : Lie w b 5 xs := fun i y hy => by
    have := hx (i + 1) y (by simpa using hy)
    rwa [show 0 + (i + 1) * 5 = 5 + i * 5 by omega] at this
  have hch := fun w' => choice_wh x w' h
  have hev := fun w' (hw : Ext w w') (c' : Nat) => every_ok numericOf xs b 5 c' w' (by rw [hl]; decide) (htail.ext hw) 141 (fun args w => Tryz.call141 args w) fun x w' hm _ => ifArg x w' (hs x hm)
  rw [hl] at hev
  obtain ⟨c0, c1, c2, c3, c4⟩ := hx.head (i := 0) rfl
  simp only [Nat.zero_mul, Nat.zero_add] at c0 c1 c2 c3 c4
  have hk4 : ¬ x.k = 4 := by rcases h.kind with h | h <;> rw [h] <;> decide
  have hk4b : (x.k == 4) = false := by simpa using hk4
  have hblt : b < w.heap.size := lt_of_cell c0
  have HX := Lib.hid hx
  have HCH := Lib.hid hch; have HEV := Lib.hid hev; clear hch hev htail hx h hs
  generalize isCond x = p at HCH ⊢
  generalize xs.all numericOf = r at HEV ⊢
  cases p
  · rw [Bool.false_and]
    go_enter Tryz.func49, Tryz.ntmps49
    (go_wp2_with fail; refine (HCH.out _).mono ?_; rintro e w1 ⟨rfl, hb1⟩; obtain ⟨hc1, hf1, hz1⟩ := ext_facts hb1; (try simp at hz1); (have hq1_0 : b < w1.heap.size := by omega); (have hl1_0 : b ≤ w1.heap.size := by omega); (have hr1_0 := fun o => hc1 (b) o (by first | omega | (simp; done) | (simp; omega))); (have hs1_0 := fun o => hf1 (b) o (by first | omega | (simp; done) | (simp; omega))); (try simp (disch := first | omega | (simp; omega)) only [World.cell?_alloc_past, World.cell?_drew] at hr1_0); (try simp (disch := first | omega | (simp; omega)) only [World.frozen?_alloc_past, World.frozen?_drew] at hs1_0); clear hc1 hf1)
    go_wp2
    go_ret2
    exact ⟨rfl, (by repeat (first | with_reducible exact Below.refl _ _ | with_reducible assumption | ((with_reducible refine Below.setCell ?_ ?_ _); rotate_left; (simp; try omega)) | (with_reducible refine Ext.tr ?_ (by with_reducible assumption)) | (with_reducible refine Ext.al ?_ _) | (with_reducible refine below_drewN ?_ _) | (with_reducible refine Below.drew ?_)))⟩
  · rw [Bool.true_and]
    cases r
    all_goals
      go_enter Tryz.func49, Tryz.ntmps49
      (go_wp2_with fail; refine (HCH.out _).mono ?_; rintro e w1 ⟨rfl, hb1⟩; obtain ⟨hc1, hf1, hz1⟩ := ext_facts hb1; (try simp at hz1); (have hq1_0 : b < w1.heap.size := by omega); (have hl1_0 : b ≤ w1.heap.size := by omega); (have hr1_0 := fun o => hc1 (b) o (by first | omega | (simp; done) | (simp; omega))); (have hs1_0 := fun o => hf1 (b) o (by first | omega | (simp; done) | (simp; omega))); (try simp (disch := first | omega | (simp; omega)) only [World.cell?_alloc_past, World.cell?_drew] at hr1_0); (try simp (disch := first | omega | (simp; omega)) only [World.frozen?_alloc_past, World.frozen?_drew] at hs1_0); clear hc1 hf1)
      (go_wp2_with fail; refine (HEV.out _ (by repeat (first | with_reducible exact Below.refl _ _ | with_reducible assumption | ((with_reducible refine Below.setCell ?_ ?_ _); rotate_left; (simp; try omega)) | (with_reducible refine Ext.tr ?_ (by with_reducible assumption)) | (with_reducible refine Ext.al ?_ _) | (with_reducible refine below_drewN ?_ _) | (with_reducible refine Below.drew ?_))) _).mono ?_; rintro e w2 ⟨rfl, hb2⟩; obtain ⟨hc2, hf2, hz2⟩ := ext_facts hb2; (try simp at hz2); clear hc2 hf2)
      go_wp2
      go_ret2
      exact ⟨rfl, (by repeat (first | with_reducible exact Below.refl _ _ | with_reducible assumption | ((with_reducible refine Below.setCell ?_ ?_ _); rotate_left; (simp; try omega)) | (with_reducible refine Ext.tr ?_ (by with_reducible assumption)) | (with_reducible refine Ext.al ?_ _) | (with_reducible refine below_drewN ?_ _) | (with_reducible refine Below.drew ?_)))⟩
end Go.Proofs.YtcknddfpcfhdpaaGreatDoor
