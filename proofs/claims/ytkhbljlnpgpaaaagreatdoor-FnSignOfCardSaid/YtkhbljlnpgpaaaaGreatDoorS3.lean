/-
  SIGN: Call of the reference.
-/
import Derived.Test.YtkhbljlnpgpaaaaGreatDoorS2
namespace Go.Proofs.YtkhbljlnpgpaaaaGreatDoor
open Go Go.RowKit
set_option maxRecDepth 100000

theorem fits_sign_yes (x : Sc) (b o c : Nat) (w : World) (hx : Lie w b o [x]) (hk : x.k = 1) :
    Calls Tryz.prog 24 #[.string ⟨#[83, 73, 71, 78]⟩, .slice (some ⟨b, o, none⟩) 1 c] w (Gives w (.bool true)) := by
  have h := fits_sign [x] b o c w rfl hx (by simp [hk])
  rwa [show [x].all numericOf = true by simp [numericOf, hk]] at h

theorem fits_sign_no (x : Sc) (b o c : Nat) (w : World) (hx : Lie w b o [x]) (hk : x.k = 6) :
    Calls Tryz.prog 24 #[.string ⟨#[83, 73, 71, 78]⟩, .slice (some ⟨b, o, none⟩) 1 c] w (Gives w (.bool false)) := by
  have h := fits_sign [x] b o c w rfl hx (by simp [hk])
  rwa [show [x].all numericOf = false by simp [numericOf, hk]] at h

set_option maxHeartbeats 1600000 in
theorem callOver_sign (x : Sc) (b o c : Nat) (w : World) (hx : Lie w b o [x]) (hk : x.k = 1) (h1 : x.n ≤ 99999999999) (h2 : -99999999999 ≤ x.n) :
    Calls Tryz.prog 16 #[.string ⟨#[83, 73, 71, 78]⟩, .slice (some ⟨b, o, none⟩) 1 c, .slice (some ⟨b, o, none⟩) 1 c] w (Gives w (number (sgn x.n) 1)) := by
  have HX := Lib.hid hx; clear hx
  have HK := Lib.hid hk; clear hk
  go_enter Tryz.func16, Tryz.ntmps16
  go_wp2_with fail
  refine (fits_sign_yes x b o c _ (HX.out.ext ((Ext.rf _).al _)) HK.out).mono ?_
  rintro e w1 ⟨rfl, hb1⟩
  obtain ⟨hc, hf, hz⟩ := ext_facts hb1; (try simp at hz); (try (have hq : w.heap.size < w1.heap.size := by omega)); (try (have hq' : w.heap.size ≤ w1.heap.size := by omega)); (try (have hr := fun o => hc w.heap.size o (by simp; omega))); (try (have hrf := fun o => hf w.heap.size o (by simp; omega)))
  go_wp2_with fail
  refine (stat_sign _ _ _ _).mono ?_
  rintro e w2 ⟨rfl, hb2⟩
  obtain ⟨hc, hf, hz⟩ := ext_facts hb2; (try simp at hz); (try (have hq : w.heap.size < w2.heap.size := by omega)); (try (have hq' : w.heap.size ≤ w2.heap.size := by omega)); (try (have hr := fun o => hc w.heap.size o (by simp; omega))); (try (have hrf := fun o => hf w.heap.size o (by simp; omega)))
  go_wp2_with fail
  refine (criteria_sign _ _ _ _).mono ?_
  rintro e w3 ⟨rfl, hb3⟩
  obtain ⟨hc, hf, hz⟩ := ext_facts hb3; (try simp at hz); (try (have hq : w.heap.size < w3.heap.size := by omega)); (try (have hq' : w.heap.size ≤ w3.heap.size := by omega)); (try (have hr := fun o => hc w.heap.size o (by simp; omega))); (try (have hrf := fun o => hf w.heap.size o (by simp; omega)))
  go_wp2_with fail
  refine (lookup_sign _ _ _ _).mono ?_
  rintro e w4 ⟨rfl, hb4⟩
  obtain ⟨hc, hf, hz⟩ := ext_facts hb4; (try simp at hz); (try (have hq : w.heap.size < w4.heap.size := by omega)); (try (have hq' : w.heap.size ≤ w4.heap.size := by omega)); (try (have hr := fun o => hc w.heap.size o (by simp; omega))); (try (have hrf := fun o => hf w.heap.size o (by simp; omega)))
  go_wp2_with fail
  have hb : Ext w w4 := (by repeat (first | with_reducible exact Below.refl _ _ | with_reducible assumption | ((with_reducible refine Below.setCell ?_ ?_ _); rotate_left; (simp; try omega)) | (with_reducible refine Ext.tr ?_ (by with_reducible assumption)) | (with_reducible refine Ext.al ?_ _) | (with_reducible refine below_drewN ?_ _) | (with_reducible refine Below.drew ?_)))
  refine (callMath_sign x b o c _ (HX.out.ext (hb.al _)) HK.out h1 h2).mono ?_
  rintro e w5 ⟨rfl, hb5⟩
  obtain ⟨hc, hf, hz⟩ := ext_facts hb5; (try simp at hz); (try (have hq : w.heap.size < w5.heap.size := by omega)); (try (have hq' : w.heap.size ≤ w5.heap.size := by omega)); (try (have hr := fun o => hc w.heap.size o (by simp; omega))); (try (have hrf := fun o => hf w.heap.size o (by simp; omega)))
  go_wp2
  exact bodyPost_ret (v := number (sgn x.n) 1) (by simp [results, Tryz.results16, go_sem, *]) rfl ⟨rfl, (by repeat (first | with_reducible exact Below.refl _ _ | with_reducible assumption | ((with_reducible refine Below.setCell ?_ ?_ _); rotate_left; (simp; try omega)) | (with_reducible refine Ext.tr ?_ (by with_reducible assumption)) | (with_reducible refine Ext.al ?_ _) | (with_reducible refine below_drewN ?_ _) | (with_reducible refine Below.drew ?_)))⟩

set_option maxHeartbeats 800000 in
theorem callOver_sign_no (x : Sc) (b o c : Nat) (w : World) (hx : Lie w b o [x]) (hk : x.k = 6) :
    Calls Tryz.prog 16 #[.string ⟨#[83, 73, 71, 78]⟩, .slice (some ⟨b, o, none⟩) 1 c, .slice (some ⟨b, o, none⟩) 1 c] w (Gives w unsure) := by
  have HX := Lib.hid hx; clear hx
  have HK := Lib.hid hk; clear hk
  go_enter Tryz.func16, Tryz.ntmps16
  (go_wp2_with fail; refine (fits_sign_no x b o c _ (HX.out.ext ((Ext.rf _).al _)) HK.out).mono ?_; rintro e w1 ⟨rfl, hb1⟩; obtain ⟨hc1, hf1, hz1⟩ := ext_facts hb1; (try simp at hz1); (have hq1_0 : w.heap.size < w1.heap.size := by omega); (have hl1_0 : w.heap.size ≤ w1.heap.size := by omega); (have hr1_0 := fun o => hc1 (w.heap.size) o (by first | omega | (simp; done) | (simp; omega))); (have hs1_0 := fun o => hf1 (w.heap.size) o (by first | omega | (simp; done) | (simp; omega))); clear hc1 hf1)
  (go_wp2_with fail; refine (doubt_any _).mono ?_; rintro e w2 ⟨rfl, hb2⟩; obtain ⟨hc2, hf2, hz2⟩ := ext_facts hb2; (try simp at hz2); (have hq2_0 : w.heap.size < w2.heap.size := by omega); (have hl2_0 : w.heap.size ≤ w2.heap.size := by omega); (have hr2_0 := fun o => hc2 (w.heap.size) o (by first | omega | (simp; done) | (simp; omega))); (have hs2_0 := fun o => hf2 (w.heap.size) o (by first | omega | (simp; done) | (simp; omega))); clear hc2 hf2)
  go_wp2
  exact bodyPost_ret (v := unsure) (by simp [results, Tryz.results16, go_sem, *]) rfl ⟨rfl, (by repeat (first | with_reducible exact Below.refl _ _ | with_reducible assumption | ((with_reducible refine Below.setCell ?_ ?_ _); rotate_left; (simp; try omega)) | (with_reducible refine Ext.tr ?_ (by with_reducible assumption)) | (with_reducible refine Ext.al ?_ _) | (with_reducible refine below_drewN ?_ _) | (with_reducible refine Below.drew ?_)))⟩
end Go.Proofs.YtkhbljlnpgpaaaaGreatDoor
