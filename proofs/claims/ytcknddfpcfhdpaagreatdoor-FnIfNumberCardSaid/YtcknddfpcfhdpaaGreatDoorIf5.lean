/-
  IF: Call of the reference.
-/
import Derived.Test.YtcknddfpcfhdpaaGreatDoorIf4
namespace Go.Proofs.YtcknddfpcfhdpaaGreatDoor
set_option linter.unusedSimpArgs false
set_option linter.unusedVariables false
open Go Go.RowKit
set_option maxRecDepth 100000

set_option maxHeartbeats 1600000 in
theorem callOver_logic (s : ByteArray) (v : Sc) (a : Option Addr) (n c : Nat) (w : World)
    (h1 : ∀ w', Ext w w' → Calls Tryz.prog 24 #[.string s, .slice a n c] w' (Gives w' (.bool true)))
    (h2 : ∀ w', Calls Tryz.prog 25 #[.string s, .slice a n c] w' (Gives w' (.tuple #[zeroVal, .bool false])))
    (h3 : ∀ w', Calls Tryz.prog 26 #[.string s, .slice a n c] w' (Gives w' (.tuple #[zeroVal, .bool false])))
    (h4 : ∀ w', Calls Tryz.prog 27 #[.string s, .slice a n c] w' (Gives w' (.tuple #[zeroVal, .bool false])))
    (h5 : ∀ w', Calls Tryz.prog 28 #[.string s, .slice a n c] w' (Gives w' (.tuple #[zeroVal, .bool false])))
    (h6 : ∀ w', Calls Tryz.prog 29 #[.string s, .slice a n c] w' (Gives w' (.tuple #[zeroVal, .bool false])))
    (h7 : ∀ w', Ext w w' → Calls Tryz.prog 30 #[.string s, .slice a n c] w' (Gives w' (.tuple #[v.val, .bool true]))) :
    Calls Tryz.prog 16 #[.string s, .slice a n c, .slice a n c] w (Gives w v.val) := by
  have H1 := Lib.hid h1; clear h1
  have H2 := Lib.hid h2; clear h2
  have H3 := Lib.hid h3; clear h3
  have H4 := Lib.hid h4; clear h4
  have H5 := Lib.hid h5; clear h5
  have H6 := Lib.hid h6; clear h6
  have H7 := Lib.hid h7; clear h7
  go_enter Tryz.func16, Tryz.ntmps16
  (go_wp2_with fail; refine (H1.out _ (by repeat (first | with_reducible exact Below.refl _ _ | with_reducible assumption | ((with_reducible refine Below.setCell ?_ ?_ _); rotate_left; (simp; try omega)) | (with_reducible refine Ext.tr ?_ (by with_reducible assumption)) | (with_reducible refine Ext.al ?_ _) | (with_reducible refine below_drewN ?_ _) | (with_reducible refine Below.drew ?_)))).mono ?_; rintro e w1 ⟨rfl, hb1⟩; obtain ⟨hc1, hf1, hz1⟩ := ext_facts hb1; (try simp at hz1); (have hq1_0 : w.heap.size < w1.heap.size := by omega); (have hl1_0 : w.heap.size ≤ w1.heap.size := by omega); (have hr1_0 := fun o => hc1 (w.heap.size) o (by first | omega | (simp; done) | (simp; omega))); (have hs1_0 := fun o => hf1 (w.heap.size) o (by first | omega | (simp; done) | (simp; omega))); (try simp (disch := first | omega | (simp; omega)) only [World.cell?_alloc_past, World.cell?_drew] at hr1_0); (try simp (disch := first | omega | (simp; omega)) only [World.frozen?_alloc_past, World.frozen?_drew] at hs1_0); clear hc1 hf1)
  (go_wp2_with fail; refine (H2.out _).mono ?_; rintro e w2 ⟨rfl, hb2⟩; obtain ⟨hc2, hf2, hz2⟩ := ext_facts hb2; (try simp at hz2); (have hq2_0 : w.heap.size < w2.heap.size := by omega); (have hl2_0 : w.heap.size ≤ w2.heap.size := by omega); (have hr2_0 := fun o => hc2 (w.heap.size) o (by first | omega | (simp; done) | (simp; omega))); (have hs2_0 := fun o => hf2 (w.heap.size) o (by first | omega | (simp; done) | (simp; omega))); (try simp (disch := first | omega | (simp; omega)) only [World.cell?_alloc_past, World.cell?_drew] at hr2_0); (try simp (disch := first | omega | (simp; omega)) only [World.frozen?_alloc_past, World.frozen?_drew] at hs2_0); clear hc2 hf2)
  (go_wp2_with fail; refine (H3.out _).mono ?_; rintro e w3 ⟨rfl, hb3⟩; obtain ⟨hc3, hf3, hz3⟩ := ext_facts hb3; (try simp at hz3); (have hq3_0 : w.heap.size < w3.heap.size := by omega); (have hl3_0 : w.heap.size ≤ w3.heap.size := by omega); (have hr3_0 := fun o => hc3 (w.heap.size) o (by first | omega | (simp; done) | (simp; omega))); (have hs3_0 := fun o => hf3 (w.heap.size) o (by first | omega | (simp; done) | (simp; omega))); (try simp (disch := first | omega | (simp; omega)) only [World.cell?_alloc_past, World.cell?_drew] at hr3_0); (try simp (disch := first | omega | (simp; omega)) only [World.frozen?_alloc_past, World.frozen?_drew] at hs3_0); clear hc3 hf3)
  (go_wp2_with fail; refine (H4.out _).mono ?_; rintro e w4 ⟨rfl, hb4⟩; obtain ⟨hc4, hf4, hz4⟩ := ext_facts hb4; (try simp at hz4); (have hq4_0 : w.heap.size < w4.heap.size := by omega); (have hl4_0 : w.heap.size ≤ w4.heap.size := by omega); (have hr4_0 := fun o => hc4 (w.heap.size) o (by first | omega | (simp; done) | (simp; omega))); (have hs4_0 := fun o => hf4 (w.heap.size) o (by first | omega | (simp; done) | (simp; omega))); (try simp (disch := first | omega | (simp; omega)) only [World.cell?_alloc_past, World.cell?_drew] at hr4_0); (try simp (disch := first | omega | (simp; omega)) only [World.frozen?_alloc_past, World.frozen?_drew] at hs4_0); clear hc4 hf4)
  (go_wp2_with fail; refine (H5.out _).mono ?_; rintro e w5 ⟨rfl, hb5⟩; obtain ⟨hc5, hf5, hz5⟩ := ext_facts hb5; (try simp at hz5); (have hq5_0 : w.heap.size < w5.heap.size := by omega); (have hl5_0 : w.heap.size ≤ w5.heap.size := by omega); (have hr5_0 := fun o => hc5 (w.heap.size) o (by first | omega | (simp; done) | (simp; omega))); (have hs5_0 := fun o => hf5 (w.heap.size) o (by first | omega | (simp; done) | (simp; omega))); (try simp (disch := first | omega | (simp; omega)) only [World.cell?_alloc_past, World.cell?_drew] at hr5_0); (try simp (disch := first | omega | (simp; omega)) only [World.frozen?_alloc_past, World.frozen?_drew] at hs5_0); clear hc5 hf5)
  (go_wp2_with fail; refine (H6.out _).mono ?_; rintro e w6 ⟨rfl, hb6⟩; obtain ⟨hc6, hf6, hz6⟩ := ext_facts hb6; (try simp at hz6); (have hq6_0 : w.heap.size < w6.heap.size := by omega); (have hl6_0 : w.heap.size ≤ w6.heap.size := by omega); (have hr6_0 := fun o => hc6 (w.heap.size) o (by first | omega | (simp; done) | (simp; omega))); (have hs6_0 := fun o => hf6 (w.heap.size) o (by first | omega | (simp; done) | (simp; omega))); (try simp (disch := first | omega | (simp; omega)) only [World.cell?_alloc_past, World.cell?_drew] at hr6_0); (try simp (disch := first | omega | (simp; omega)) only [World.frozen?_alloc_past, World.frozen?_drew] at hs6_0); clear hc6 hf6)
  (go_wp2_with fail; refine (H7.out _ (by repeat (first | with_reducible exact Below.refl _ _ | with_reducible assumption | ((with_reducible refine Below.setCell ?_ ?_ _); rotate_left; (simp; try omega)) | (with_reducible refine Ext.tr ?_ (by with_reducible assumption)) | (with_reducible refine Ext.al ?_ _) | (with_reducible refine below_drewN ?_ _) | (with_reducible refine Below.drew ?_)))).mono ?_; rintro e w7 ⟨rfl, hb7⟩; obtain ⟨hc7, hf7, hz7⟩ := ext_facts hb7; (try simp at hz7); (have hq7_0 : w.heap.size < w7.heap.size := by omega); (have hl7_0 : w.heap.size ≤ w7.heap.size := by omega); (have hr7_0 := fun o => hc7 (w.heap.size) o (by first | omega | (simp; done) | (simp; omega))); (have hs7_0 := fun o => hf7 (w.heap.size) o (by first | omega | (simp; done) | (simp; omega))); (try simp (disch := first | omega | (simp; omega)) only [World.cell?_alloc_past, World.cell?_drew] at hr7_0); (try simp (disch := first | omega | (simp; omega)) only [World.frozen?_alloc_past, World.frozen?_drew] at hs7_0); clear hc7 hf7)
  go_wp2
  exact bodyPost_ret (v := v.val) (by simp [results, Tryz.results16, go_sem, *]) rfl ⟨rfl, (by repeat (first | with_reducible exact Below.refl _ _ | with_reducible assumption | ((with_reducible refine Below.setCell ?_ ?_ _); rotate_left; (simp; try omega)) | (with_reducible refine Ext.tr ?_ (by with_reducible assumption)) | (with_reducible refine Ext.al ?_ _) | (with_reducible refine below_drewN ?_ _) | (with_reducible refine Below.drew ?_)))⟩

/-- What IF of whole numbers is: with two, with three. -/
def ifSc2 (c n : Int) : Sc := if c = 0 then ⟨3, 0, 0, ⟨#[]⟩⟩ else numSc n
def ifSc3 (c n k : Int) : Sc := if c = 0 then numSc k else numSc n

theorem either2 (c n : Int) (b : Nat) (w : World) (hc : c = 0 ∨ c = 1) (hx : Lie w b 0 [numSc c, numSc n]) :
    Calls Tryz.prog 106 #[.slice (some ⟨b, 0, none⟩) 2 2] w (Gives w (ifSc2 c n).val) := by
  rcases hc with rfl | rfl
  · exact either_no2 n b w hx
  · exact either_yes2 n b w hx

theorem either3 (c n k : Int) (b : Nat) (w : World) (hc : c = 0 ∨ c = 1) (hx : Lie w b 0 [numSc c, numSc n, numSc k]) :
    Calls Tryz.prog 106 #[.slice (some ⟨b, 0, none⟩) 3 3] w (Gives w (ifSc3 c n k).val) := by
  rcases hc with rfl | rfl
  · exact either_no3 n k b w hx
  · exact either_yes3 n k b w hx

set_option maxHeartbeats 800000 in
theorem callLogic_if (v : Sc) (a : Option Addr) (n c : Nat) (w : World) (h : ∀ w', Ext w w' → Calls Tryz.prog 106 #[.slice a n c] w' (Gives w' v.val)) :
    Calls Tryz.prog 30 #[.string ⟨#[73, 70]⟩, .slice a n c] w (Gives w (.tuple #[v.val, .bool true])) := by
  have HC := Lib.hid h; clear h
  go_enter Tryz.func30, Tryz.ntmps30
  (go_wp2_with fail; refine (HC.out _ (by repeat (first | with_reducible exact Below.refl _ _ | with_reducible assumption | ((with_reducible refine Below.setCell ?_ ?_ _); rotate_left; (simp; try omega)) | (with_reducible refine Ext.tr ?_ (by with_reducible assumption)) | (with_reducible refine Ext.al ?_ _) | (with_reducible refine below_drewN ?_ _) | (with_reducible refine Below.drew ?_)))).mono ?_; rintro e w1 ⟨rfl, hb1⟩; obtain ⟨hc1, hf1, hz1⟩ := ext_facts hb1; (try simp at hz1); (have hq1_0 : w.heap.size < w1.heap.size := by omega); (have hl1_0 : w.heap.size ≤ w1.heap.size := by omega); (have hr1_0 := fun o => hc1 (w.heap.size) o (by first | omega | (simp; done) | (simp; omega))); (have hs1_0 := fun o => hf1 (w.heap.size) o (by first | omega | (simp; done) | (simp; omega))); (try simp (disch := first | omega | (simp; omega)) only [World.cell?_alloc_past, World.cell?_drew] at hr1_0); (try simp (disch := first | omega | (simp; omega)) only [World.frozen?_alloc_past, World.frozen?_drew] at hs1_0); clear hc1 hf1)
  go_wp2
  exact bodyPost_ret (v := .tuple #[v.val, .bool true]) (by simp [results, Tryz.results30, go_sem, *]) rfl ⟨rfl, (by repeat (first | with_reducible exact Below.refl _ _ | with_reducible assumption | ((with_reducible refine Below.setCell ?_ ?_ _); rotate_left; (simp; try omega)) | (with_reducible refine Ext.tr ?_ (by with_reducible assumption)) | (with_reducible refine Ext.al ?_ _) | (with_reducible refine below_drewN ?_ _) | (with_reducible refine Below.drew ?_)))⟩

theorem fits_if_2 (x y : Sc) (b : Nat) (w : World) (hx : Lie w b 0 [x, y]) (h1 : Wh x) (h2 : Wh y) :
    Calls Tryz.prog 24 #[.string ⟨#[73, 70]⟩, .slice (some ⟨b, 0, none⟩) 2 2] w (Gives w (.bool (isCond x && [y].all numericOf))) := by
  have hy : ∀ z ∈ [y], Wh z := fun z hz => by
    have e : z = y := by simpa using hz
    subst e; exact h2
  exact fits_of_choices _ _ _ _ _ w (fun w' hw => fitsNumbers_if_2 [x, y] b 0 2 w' rfl (hx.ext hw) (fun z hz => by
      rcases List.mem_cons.1 hz with rfl | hz
      · exact h1
      · exact hy z hz)) (fun w' _ => fitsTexts_IF _ _ _ w') (fun w' hw => fitsChoices_if_2 x [y] b 2 w' rfl (hx.ext hw) (by omega) h1 hy)

theorem fits_if_3 (x y z : Sc) (b : Nat) (w : World) (hx : Lie w b 0 [x, y, z]) (h1 : Wh x) (h2 : Wh y) (h3 : Wh z) :
    Calls Tryz.prog 24 #[.string ⟨#[73, 70]⟩, .slice (some ⟨b, 0, none⟩) 3 3] w (Gives w (.bool (isCond x && [y, z].all numericOf))) := by
  have hy : ∀ u ∈ [y, z], Wh u := fun u hu => by
    rcases List.mem_cons.1 hu with rfl | hu
    · exact h2
    · have e : u = z := by simpa using hu
      subst e; exact h3
  exact fits_of_choices _ _ _ _ _ w (fun w' hw => fitsNumbers_if_3 [x, y, z] b 0 3 w' rfl (hx.ext hw) (fun u hu => by
      rcases List.mem_cons.1 hu with rfl | hu
      · exact h1
      · exact hy u hu)) (fun w' _ => fitsTexts_IF _ _ _ w') (fun w' hw => fitsChoices_if_3 x [y, z] b 3 w' rfl (hx.ext hw) (by omega) h1 hy)

theorem callOver_if_2 (c n : Int) (b : Nat) (w : World) (hx : Lie w b 0 [numSc c, numSc n]) (hc : c = 0 ∨ c = 1) (h1 : Wh (numSc c)) (h2 : Wh (numSc n)) :
    Calls Tryz.prog 16 #[.string ⟨#[73, 70]⟩, .slice (some ⟨b, 0, none⟩) 2 2, .slice (some ⟨b, 0, none⟩) 2 2] w (Gives w (ifSc2 c n).val) := by
  refine callOver_logic _ (ifSc2 c n) _ _ _ w (fun w' hw => ?_) (fun w' => Stat_IF _ _ _ w') (fun w' => Criteria_IF _ _ _ w') (fun w' => Lookup_IF _ _ _ w') (fun w' => CallMath_IF _ _ _ w') (fun w' => CallText_IF _ _ _ w')
    (fun w' hw => callLogic_if _ _ _ _ w' fun w2 hw2 => either2 c n b w2 hc (hx.ext (hw.tr hw2)))
  have h := fits_if_2 _ _ b w' (hx.ext hw) h1 h2
  rwa [show (isCond (numSc c) && [numSc n].all numericOf) = true by rcases hc with rfl | rfl <;> simp [isCond, numericOf]] at h

theorem callOver_if_3 (c n k : Int) (b : Nat) (w : World) (hx : Lie w b 0 [numSc c, numSc n, numSc k]) (hc : c = 0 ∨ c = 1) (h1 : Wh (numSc c)) (h2 : Wh (numSc n)) (h3 : Wh (numSc k)) :
    Calls Tryz.prog 16 #[.string ⟨#[73, 70]⟩, .slice (some ⟨b, 0, none⟩) 3 3, .slice (some ⟨b, 0, none⟩) 3 3] w (Gives w (ifSc3 c n k).val) := by
  refine callOver_logic _ (ifSc3 c n k) _ _ _ w (fun w' hw => ?_) (fun w' => Stat_IF _ _ _ w') (fun w' => Criteria_IF _ _ _ w') (fun w' => Lookup_IF _ _ _ w') (fun w' => CallMath_IF _ _ _ w') (fun w' => CallText_IF _ _ _ w')
    (fun w' hw => callLogic_if _ _ _ _ w' fun w2 hw2 => either3 c n k b w2 hc (hx.ext (hw.tr hw2)))
  have h := fits_if_3 _ _ _ b w' (hx.ext hw) h1 h2 h3
  rwa [show (isCond (numSc c) && [numSc n, numSc k].all numericOf) = true by rcases hc with rfl | rfl <;> simp [isCond, numericOf]] at h
end Go.Proofs.YtcknddfpcfhdpaaGreatDoor
