/-
  ISTEXT: the reference's side.
-/
import Derived.Test.YtnkhpkpcjijpeaaGreatDoorIa
import Derived.Test.YtnkhpkpcjijpeaaGreatDoorMade
namespace Go.Proofs.YtnkhpkpcjijpeaaGreatDoor
set_option linter.unusedSimpArgs false
set_option linter.unusedVariables false
open Go Go.RowKit
set_option maxRecDepth 100000

/-- Whether ISTEXT says anything of a value. -/
def itOk (x : Sc) : Bool := if x.k = 6 then false else if x.k = 2 then wordT x.t else true

set_option maxHeartbeats 3200000 in
theorem fitsChoices_istext_doubt (n d : Int) (t : ByteArray) (b o c : Nat) (w : World) (hx : Lie w b o [⟨6, n, d, t⟩]) :
    Calls Tryz.prog 50 #[.string ⟨#[73, 83, 84, 69, 88, 84]⟩, .slice (some ⟨b, o, none⟩) 1 c] w (Gives w (.tuple #[.bool false, .bool true])) := by
  obtain ⟨c0, c1, c2, c3, c4⟩ := hx 0 ⟨6, n, d, t⟩ rfl
  simp only [Nat.zero_mul, Nat.add_zero] at c0 c1 c2 c3 c4
  have hbl : b < w.heap.size := lt_of_cell c0
  have HS := Lib.hid (fun w' => single_any ⟨6, n, d, t⟩ w')
  clear hx
  go_enter Tryz.func50, Tryz.ntmps50
  (go_wp2_with fail; refine (HS.out _).mono ?_; rintro e w1 ⟨rfl, hb1⟩; obtain ⟨hc1, hf1, hz1⟩ := ext_facts hb1; (try simp at hz1); clear hc1 hf1)
  go_wp2
  go_ret2
  exact ⟨rfl, (by repeat (first | with_reducible exact Below.refl _ _ | with_reducible assumption | ((with_reducible refine Below.setCell ?_ ?_ _); rotate_left; (simp; try omega)) | (with_reducible refine Ext.tr ?_ (by with_reducible assumption)) | (with_reducible refine Ext.al ?_ _) | (with_reducible refine below_drewN ?_ _) | (with_reducible refine Below.drew ?_)))⟩

set_option maxHeartbeats 3200000 in
theorem fitsChoices_istext_text (n d : Int) (t : ByteArray) (b o c : Nat) (w : World) (hs : t.size ≤ 1000000000) (hx : Lie w b o [⟨2, n, d, t⟩]) :
    Calls Tryz.prog 50 #[.string ⟨#[73, 83, 84, 69, 88, 84]⟩, .slice (some ⟨b, o, none⟩) 1 c] w (Gives w (.tuple #[.bool (wordT t), .bool true])) := by
  obtain ⟨c0, c1, c2, c3, c4⟩ := hx 0 ⟨2, n, d, t⟩ rfl
  simp only [Nat.zero_mul, Nat.add_zero] at c0 c1 c2 c3 c4
  have hbl : b < w.heap.size := lt_of_cell c0
  have HS := Lib.hid (fun w' => single_any ⟨2, n, d, t⟩ w')
  have hl := fun w' => letters_ok t w' hs
  generalize wordT t = r at hl ⊢
  have HX := Lib.hid hx
  have HL := Lib.hid hl; clear hl hs hx
  cases r
  all_goals
    go_enter Tryz.func50, Tryz.ntmps50
    (go_wp2_with fail; refine (HS.out _).mono ?_; rintro e w1 ⟨rfl, hb1⟩; obtain ⟨hc1, hf1, hz1⟩ := ext_facts hb1; (try simp at hz1); clear hc1 hf1)
    obtain ⟨d0, d1, d2, d3, d4⟩ := (HX.out.ext (w' := w1) (by repeat (first | with_reducible exact Below.refl _ _ | with_reducible assumption | ((with_reducible refine Below.setCell ?_ ?_ _); rotate_left; (simp; try omega)) | (with_reducible refine Ext.tr ?_ (by with_reducible assumption)) | (with_reducible refine Ext.al ?_ _) | (with_reducible refine below_drewN ?_ _) | (with_reducible refine Below.drew ?_)))) 0 ⟨2, n, d, t⟩ rfl
    simp only [Nat.zero_mul, Nat.add_zero] at d0 d1 d2 d3 d4
    have hbl1 : b < w1.heap.size := lt_of_cell d0
    (go_wp2_with fail; refine (HL.out _).mono ?_; rintro e w2 ⟨rfl, hb2⟩; obtain ⟨hc2, hf2, hz2⟩ := ext_facts hb2; (try simp at hz2); clear hc2 hf2)
    go_wp2
    go_ret2
    exact ⟨rfl, (by repeat (first | with_reducible exact Below.refl _ _ | with_reducible assumption | ((with_reducible refine Below.setCell ?_ ?_ _); rotate_left; (simp; try omega)) | (with_reducible refine Ext.tr ?_ (by with_reducible assumption)) | (with_reducible refine Ext.al ?_ _) | (with_reducible refine below_drewN ?_ _) | (with_reducible refine Below.drew ?_)))⟩

set_option maxHeartbeats 3200000 in
theorem fitsChoices_istext_other (k n d : Int) (t : ByteArray) (b o c : Nat) (w : World) (h2 : k ≠ 2) (h5 : k ≠ 5) (h6 : k ≠ 6) (hx : Lie w b o [⟨k, n, d, t⟩]) :
    Calls Tryz.prog 50 #[.string ⟨#[73, 83, 84, 69, 88, 84]⟩, .slice (some ⟨b, o, none⟩) 1 c] w (Gives w (.tuple #[.bool true, .bool true])) := by
  obtain ⟨c0, c1, c2, c3, c4⟩ := hx 0 ⟨k, n, d, t⟩ rfl
  simp only [Nat.zero_mul, Nat.add_zero] at c0 c1 c2 c3 c4
  have hbl : b < w.heap.size := lt_of_cell c0
  have hss := fun w' => single_any ⟨k, n, d, t⟩ w'
  simp only [bne_iff_ne.2 h5, bne_iff_ne.2 h6, Bool.and_self] at hss
  have HS := Lib.hid hss; clear hss
  have h2b : (k != 2) = true := bne_iff_ne.2 h2
  have HX := Lib.hid hx
  clear hx h5 h6
  go_enter Tryz.func50, Tryz.ntmps50
  (go_wp2_with fail; refine (HS.out _).mono ?_; rintro e w1 ⟨rfl, hb1⟩; obtain ⟨hc1, hf1, hz1⟩ := ext_facts hb1; (try simp at hz1); clear hc1 hf1)
  obtain ⟨d0, d1, d2, d3, d4⟩ := (HX.out.ext (w' := w1) (by repeat (first | with_reducible exact Below.refl _ _ | with_reducible assumption | ((with_reducible refine Below.setCell ?_ ?_ _); rotate_left; (simp; try omega)) | (with_reducible refine Ext.tr ?_ (by with_reducible assumption)) | (with_reducible refine Ext.al ?_ _) | (with_reducible refine below_drewN ?_ _) | (with_reducible refine Below.drew ?_)))) 0 ⟨k, n, d, t⟩ rfl
  simp only [Nat.zero_mul, Nat.add_zero] at d0 d1 d2 d3 d4
  have hbl1 : b < w1.heap.size := lt_of_cell d0
  go_wp2
  go_ret2
  exact ⟨rfl, (by repeat (first | with_reducible exact Below.refl _ _ | with_reducible assumption | ((with_reducible refine Below.setCell ?_ ?_ _); rotate_left; (simp; try omega)) | (with_reducible refine Ext.tr ?_ (by with_reducible assumption)) | (with_reducible refine Ext.al ?_ _) | (with_reducible refine below_drewN ?_ _) | (with_reducible refine Below.drew ?_)))⟩

theorem fitsChoices_istext (x : Sc) (b o c : Nat) (w : World) (h : Any1 x ∨ x.k = 6) (hx : Lie w b o [x]) :
    Calls Tryz.prog 50 #[.string ⟨#[73, 83, 84, 69, 88, 84]⟩, .slice (some ⟨b, o, none⟩) 1 c] w (Gives w (.tuple #[.bool (itOk x), .bool true])) := by
  obtain ⟨k, n, d, t⟩ := x
  by_cases h6 : k = 6
  · subst h6
    rw [show itOk ⟨6, n, d, t⟩ = false from if_pos rfl]
    exact fitsChoices_istext_doubt n d t b o c w hx
  · have h1 : Any1 ⟨k, n, d, t⟩ := h.resolve_right h6
    by_cases h2 : k = 2
    · subst h2
      have hs : t.size ≤ 1000000000 := by
        rcases h1 with (h | h | h | h) | ⟨_, h⟩
        · cases h
        · cases h
        · cases h
        · cases h
        · exact h
      rw [show itOk ⟨2, n, d, t⟩ = wordT t by unfold itOk; rw [if_neg h6, if_pos rfl]]
      exact fitsChoices_istext_text n d t b o c w hs hx
    · rw [show itOk ⟨k, n, d, t⟩ = true by unfold itOk; rw [if_neg h6, if_neg h2]]
      have h5 : k ≠ 5 := by rcases h1 with (h | h | h | h) | ⟨h, _⟩ <;> (simp only at h; omega)
      exact fitsChoices_istext_other k n d t b o c w h2 h5 h6 hx

theorem fits_istext (x : Sc) (b o c : Nat) (w : World) (h : Any1 x ∨ x.k = 6) (hx : Lie w b o [x]) :
    Calls Tryz.prog 30 #[.string ⟨#[73, 83, 84, 69, 88, 84]⟩, .slice (some ⟨b, o, none⟩) 1 c] w (Gives w (.bool (itOk x))) :=
  fits_of_choices _ _ _ _ _ w (fun w' hw => fitsNumbers_istext x b o c w' h (hx.ext hw)) (fun w' _ => fitsTexts_ISTEXT _ _ _ w') (fun w' hw => fitsChoices_istext x b o c w' h (hx.ext hw))

@[go_sem] theorem field_kind (k n d : Int) (t : ByteArray) (w : World) : (Instr.field 27 (.agg #[.int .i64 k, .int .i64 n, .int .i64 d, .string t, .slice none 0 0]) 0).run Tryz.prog w = .ok (.int .i64 k) w := by kernel_rfl

set_option maxHeartbeats 1600000 in
theorem told_istext (x : Sc) (w : World) (h : Any1 x) (hok : itOk x = true) : Calls Tryz.prog 111 #[.string ⟨#[73, 83, 84, 69, 88, 84]⟩, x.val] w (Gives w (logSc (x.k == 2)).val) := by
  obtain ⟨k, n, d, t⟩ := x
  have hb := fun r w' => bool_any r w'
  have HB := Lib.hid hb; clear hb
  by_cases h2 : k = 2
  · subst h2
    have hsz : t.size ≤ 1000000000 := by
      rcases h with (h | h | h | h) | ⟨_, h⟩
      · cases h
      · cases h
      · cases h
      · cases h
      · exact h
    have hr := fun w' => read_word t w' hsz hok
    have HR := Lib.hid hr; clear hr h hok hsz
    go_enter Tryz.func111, Tryz.ntmps111
    (go_wp2_with fail; refine (HR.out _).mono ?_; rintro e w1 ⟨rfl, hb1⟩; obtain ⟨hc1, hf1, hz1⟩ := ext_facts hb1; (try simp at hz1); (have hq1_0 : w.heap.size < w1.heap.size := by omega); (have hl1_0 : w.heap.size ≤ w1.heap.size := by omega); (have hr1_0 := fun o => hc1 (w.heap.size) o (by first | omega | (simp; done) | (simp; omega))); (have hs1_0 := fun o => hf1 (w.heap.size) o (by first | omega | (simp; done) | (simp; omega))); (try simp (disch := first | omega | (simp; omega)) only [World.cell?_alloc_past, World.cell?_drew] at hr1_0); (try simp (disch := first | omega | (simp; omega)) only [World.frozen?_alloc_past, World.frozen?_drew] at hs1_0); (have hq1_1 : w.heap.size + 1 < w1.heap.size := by omega); (have hl1_1 : w.heap.size + 1 ≤ w1.heap.size := by omega); (have hr1_1 := fun o => hc1 (w.heap.size + 1) o (by first | omega | (simp; done) | (simp; omega))); (have hs1_1 := fun o => hf1 (w.heap.size + 1) o (by first | omega | (simp; done) | (simp; omega))); (try simp (disch := first | omega | (simp; omega)) only [World.cell?_alloc_past, World.cell?_drew] at hr1_1); (try simp (disch := first | omega | (simp; omega)) only [World.frozen?_alloc_past, World.frozen?_drew] at hs1_1); clear hc1 hf1)
    (go_wp2_with fail; refine (HB.out true _).mono ?_; rintro e w2 ⟨rfl, hb2⟩; obtain ⟨hc2, hf2, hz2⟩ := ext_facts hb2; (try simp at hz2); (have hq2_0 : w.heap.size < w2.heap.size := by omega); (have hl2_0 : w.heap.size ≤ w2.heap.size := by omega); (have hr2_0 := fun o => hc2 (w.heap.size) o (by first | omega | (simp; done) | (simp; omega))); (have hs2_0 := fun o => hf2 (w.heap.size) o (by first | omega | (simp; done) | (simp; omega))); (try simp (disch := first | omega | (simp; omega)) only [World.cell?_alloc_past, World.cell?_drew] at hr2_0); (try simp (disch := first | omega | (simp; omega)) only [World.frozen?_alloc_past, World.frozen?_drew] at hs2_0); (have hq2_1 : w.heap.size + 1 < w2.heap.size := by omega); (have hl2_1 : w.heap.size + 1 ≤ w2.heap.size := by omega); (have hr2_1 := fun o => hc2 (w.heap.size + 1) o (by first | omega | (simp; done) | (simp; omega))); (have hs2_1 := fun o => hf2 (w.heap.size + 1) o (by first | omega | (simp; done) | (simp; omega))); (try simp (disch := first | omega | (simp; omega)) only [World.cell?_alloc_past, World.cell?_drew] at hr2_1); (try simp (disch := first | omega | (simp; omega)) only [World.frozen?_alloc_past, World.frozen?_drew] at hs2_1); clear hc2 hf2)
    go_wp2
    exact bodyPost_ret (v := (logSc true).val) (by simp [results, Tryz.results111, go_sem, *]) rfl ⟨rfl, (by repeat (first | with_reducible exact Below.refl _ _ | with_reducible assumption | ((with_reducible refine Below.setCell ?_ ?_ _); rotate_left; (simp; try omega)) | (with_reducible refine Ext.tr ?_ (by with_reducible assumption)) | (with_reducible refine Ext.al ?_ _) | (with_reducible refine below_drewN ?_ _) | (with_reducible refine Below.drew ?_)))⟩
  · have h2b : (k == 2) = false := beq_eq_false_iff_ne.2 h2
    rw [h2b]
    clear h hok
    go_enter Tryz.func111, Tryz.ntmps111
    (go_wp2_with fail; refine (HB.out false _).mono ?_; rintro e w2 ⟨rfl, hb2⟩; obtain ⟨hc2, hf2, hz2⟩ := ext_facts hb2; (try simp at hz2); (have hq2_0 : w.heap.size < w2.heap.size := by omega); (have hl2_0 : w.heap.size ≤ w2.heap.size := by omega); (have hr2_0 := fun o => hc2 (w.heap.size) o (by first | omega | (simp; done) | (simp; omega))); (have hs2_0 := fun o => hf2 (w.heap.size) o (by first | omega | (simp; done) | (simp; omega))); (try simp (disch := first | omega | (simp; omega)) only [World.cell?_alloc_past, World.cell?_drew] at hr2_0); (try simp (disch := first | omega | (simp; omega)) only [World.frozen?_alloc_past, World.frozen?_drew] at hs2_0); (have hq2_1 : w.heap.size + 1 < w2.heap.size := by omega); (have hl2_1 : w.heap.size + 1 ≤ w2.heap.size := by omega); (have hr2_1 := fun o => hc2 (w.heap.size + 1) o (by first | omega | (simp; done) | (simp; omega))); (have hs2_1 := fun o => hf2 (w.heap.size + 1) o (by first | omega | (simp; done) | (simp; omega))); (try simp (disch := first | omega | (simp; omega)) only [World.cell?_alloc_past, World.cell?_drew] at hr2_1); (try simp (disch := first | omega | (simp; omega)) only [World.frozen?_alloc_past, World.frozen?_drew] at hs2_1); clear hc2 hf2)
    go_wp2
    exact bodyPost_ret (v := (logSc false).val) (by simp [results, Tryz.results111, go_sem, *]) rfl ⟨rfl, (by repeat (first | with_reducible exact Below.refl _ _ | with_reducible assumption | ((with_reducible refine Below.setCell ?_ ?_ _); rotate_left; (simp; try omega)) | (with_reducible refine Ext.tr ?_ (by with_reducible assumption)) | (with_reducible refine Ext.al ?_ _) | (with_reducible refine below_drewN ?_ _) | (with_reducible refine Below.drew ?_)))⟩

set_option maxHeartbeats 800000 in
theorem callInfo_istext (x : Sc) (b o c : Nat) (w : World) (h : Any1 x) (hok : itOk x = true) (hx : Lie w b o [x]) :
    Calls Tryz.prog 38 #[.string ⟨#[73, 83, 84, 69, 88, 84]⟩, .slice (some ⟨b, o, none⟩) 1 c] w (Gives w (.tuple #[(logSc (x.k == 2)).val, .bool true])) := by
  have HT := Lib.hid (fun w' => told_istext x w' h hok)
  obtain ⟨c0, c1, c2, c3, c4⟩ := hx 0 x rfl
  simp only [Nat.zero_mul, Nat.add_zero] at c0 c1 c2 c3 c4
  have hbl : b < w.heap.size := lt_of_cell c0
  have e6 : (x.k == 6) = false := by
    rw [beq_eq_false_iff_ne]
    intro h6; unfold itOk at hok; rw [if_pos h6] at hok; cases hok
  have e5 : (x.k == 5) = false := by
    rw [beq_eq_false_iff_ne]
    rcases h with (h | h | h | h) | ⟨h, _⟩ <;> omega
  clear hx h hok
  generalize logSc (x.k == 2) = r at HT ⊢
  go_enter Tryz.func38, Tryz.ntmps38
  (go_wp2_with fail; refine (HT.out _).mono ?_; rintro e w1 ⟨rfl, hb1⟩; obtain ⟨hc1, hf1, hz1⟩ := ext_facts hb1; (try simp at hz1); (have hq1_0 : w.heap.size < w1.heap.size := by omega); (have hl1_0 : w.heap.size ≤ w1.heap.size := by omega); (have hr1_0 := fun o => hc1 (w.heap.size) o (by first | omega | (simp; done) | (simp; omega))); (have hs1_0 := fun o => hf1 (w.heap.size) o (by first | omega | (simp; done) | (simp; omega))); (try simp (disch := first | omega | (simp; omega)) only [World.cell?_alloc_past, World.cell?_drew] at hr1_0); (try simp (disch := first | omega | (simp; omega)) only [World.frozen?_alloc_past, World.frozen?_drew] at hs1_0); clear hc1 hf1)
  go_wp2
  exact bodyPost_ret (v := .tuple #[r.val, .bool true]) (by simp [results, Tryz.results38, go_sem, *]) rfl ⟨rfl, (by repeat (first | with_reducible exact Below.refl _ _ | with_reducible assumption | ((with_reducible refine Below.setCell ?_ ?_ _); rotate_left; (simp; try omega)) | (with_reducible refine Ext.tr ?_ (by with_reducible assumption)) | (with_reducible refine Ext.al ?_ _) | (with_reducible refine below_drewN ?_ _) | (with_reducible refine Below.drew ?_)))⟩

theorem callOver_istext (x : Sc) (b o c : Nat) (w : World) (h : Any1 x) (hok : itOk x = true) (hx : Lie w b o [x]) :
    Calls Tryz.prog 21 #[.string ⟨#[73, 83, 84, 69, 88, 84]⟩, .slice (some ⟨b, o, none⟩) 1 c, .slice (some ⟨b, o, none⟩) 1 c] w (Gives w (logSc (x.k == 2)).val) := by
  refine callOver_info _ (logSc (x.k == 2)) _ _ _ w (fun w' hw => ?_) (fun w' => Stat_ISTEXT _ _ _ w') (fun w' => Criteria_ISTEXT _ _ _ w') (fun w' => Lookup_ISTEXT _ _ _ w') (fun w' => CallMath_ISTEXT _ _ _ w') (fun w' => CallText_ISTEXT _ _ _ w') (fun w' => CallLogic_ISTEXT _ _ _ w')
    (fun w' hw => callInfo_istext x b o c w' h hok (hx.ext hw))
  have hf := fits_istext x b o c w' (Or.inl h) (hx.ext hw)
  rwa [hok] at hf
end Go.Proofs.YtnkhpkpcjijpeaaGreatDoor
