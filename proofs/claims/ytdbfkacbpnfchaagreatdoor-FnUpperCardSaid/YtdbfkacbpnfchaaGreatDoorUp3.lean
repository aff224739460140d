/-
  UPPER: Fits and Call of the reference.
-/
import Derived.Test.YtdbfkacbpnfchaaGreatDoorNt
namespace Go.Proofs.YtdbfkacbpnfchaaGreatDoor
set_option linter.unusedSimpArgs false
set_option linter.unusedVariables false
open Go Go.RowKit
set_option maxRecDepth 100000

/-- every numeric of values among which are texts: it says something. -/
theorem every_numeric_some (xs : List Sc) (b o c : Nat) (w : World) (hl : xs.length ≤ 1000000000) (hx : Lie w b o xs) (h : ∀ x ∈ xs, (x.k = 1 ∨ x.k = 6) ∨ (x.k = 2 ∧ x.t.size ≤ 1000000000)) :
    Calls Tryz.prog 125 #[.slice (some ⟨b, o, none⟩) xs.length c, .func (.func 126) #[] #[]] w fun e w' => ∃ r : Bool, e = .returned (.bool r) ∧ Ext w w' := by
  refine every_some xs b o c w hl hx 126 (fun args w => Tryz.call126 args w) fun x w' hm _ => ?_
  rcases h x hm with h | ⟨h, hs⟩
  · exact (numeric_at x w' h).mono fun e w2 ⟨he, hb⟩ => ⟨_, he, hb⟩
  · obtain ⟨k, n, d, t⟩ := x
    simp only at h hs
    subst h
    exact numeric_text n d t w' hs

set_option maxHeartbeats 800000 in
theorem fitsNumbers_upper (s : ByteArray) (b o c : Nat) (w : World) (hs : s.size ≤ 1000000000) (hx : Lie w b o [txtSc s]) :
    Calls Tryz.prog 42 #[.string ⟨#[85, 80, 80, 69, 82]⟩, .slice (some ⟨b, o, none⟩) 1 c] w (Gives w (.tuple #[.bool false, .bool false])) := by
  have hc1 := every_numeric_some [txtSc s] b o c w (by simp) hx (fun x hm => by
    have e : x = txtSc s := by simpa using hm
    subst e; exact Or.inr ⟨rfl, hs⟩)
  have HC := Lib.hid hc1; clear hx hc1 hs
  go_enter Tryz.func42, Tryz.ntmps42
  go_wp2_with fail
  refine HC.out.mono ?_
  rintro e w1 ⟨r, rfl, hb⟩
  go_wp2
  go_ret2
  exact ⟨rfl, hb⟩

set_option maxHeartbeats 800000 in
theorem fitsTexts_upper (s : ByteArray) (b o c : Nat) (w : World) (hs : s.size ≤ 1000000000) (hx : Lie w b o [txtSc s]) :
    Calls Tryz.prog 43 #[.string ⟨#[85, 80, 80, 69, 82]⟩, .slice (some ⟨b, o, none⟩) 1 c] w (Gives w (.tuple #[.bool (asciiT s), .bool true])) := by
  have ht := fun w' => textual_text s w' hs
  generalize asciiT s = r at ht ⊢
  have HT := Lib.hid ht; clear ht
  obtain ⟨c0, c1, c2, c3, c4⟩ := hx 0 (txtSc s) rfl
  simp only [Nat.zero_mul, Nat.add_zero] at c0 c1 c2 c3 c4
  clear hx
  cases r
  all_goals
    go_enter Tryz.func43, Tryz.ntmps43
    (go_wp2_with fail; refine (HT.out _).mono ?_; rintro e w1 ⟨rfl, hb1⟩; obtain ⟨hc1, hf1, hz1⟩ := ext_facts hb1; (try simp at hz1); clear hc1 hf1)
    go_wp2
    go_ret2
    exact ⟨rfl, (by repeat (first | with_reducible exact Below.refl _ _ | with_reducible assumption | ((with_reducible refine Below.setCell ?_ ?_ _); rotate_left; (simp; try omega)) | (with_reducible refine Ext.tr ?_ (by with_reducible assumption)) | (with_reducible refine Ext.al ?_ _) | (with_reducible refine below_drewN ?_ _) | (with_reducible refine Below.drew ?_)))⟩

theorem fits_upper (s : ByteArray) (b o c : Nat) (w : World) (hs : s.size ≤ 1000000000) (hx : Lie w b o [txtSc s]) :
    Calls Tryz.prog 23 #[.string ⟨#[85, 80, 80, 69, 82]⟩, .slice (some ⟨b, o, none⟩) 1 c] w (Gives w (.bool (asciiT s))) :=
  fits_of_texts _ _ true _ _ _ w (fun w' hw => fitsNumbers_upper s b o c w' hs (hx.ext hw)) (fun w' hw => fitsTexts_upper s b o c w' hs (hx.ext hw))

theorem callOver_upper (s : ByteArray) (b o c : Nat) (w : World) (hs : s.size ≤ 1000000000) (ha : asciiT s = true) (hx : Lie w b o [txtSc s]) :
    Calls Tryz.prog 16 #[.string ⟨#[85, 80, 80, 69, 82]⟩, .slice (some ⟨b, o, none⟩) 1 c, .slice (some ⟨b, o, none⟩) 1 c] w (Gives w (txtSc ⟨(Lib.toUpperA s.data.toList).toArray⟩).val) := by
  refine callOver_text _ (txtSc ⟨(Lib.toUpperA s.data.toList).toArray⟩) _ _ _ w (fun w' hw => ?_) (fun w' => Stat_UPPER _ _ _ w') (fun w' => Criteria_UPPER _ _ _ w') (fun w' => Lookup_UPPER _ _ _ w') (fun w' => CallMath_UPPER _ _ _ w')
    (fun w' hw => callText_upper s b o c w' hs ha (hx.ext hw))
  have h := fits_upper s b o c w' hs (hx.ext hw)
  rwa [ha] at h
end Go.Proofs.YtdbfkacbpnfchaaGreatDoor
