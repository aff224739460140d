/-
  The reference's SUMPRODUCT.
-/
import Derived.Test.YtdakljeladhciaaGreatDoorSs
import Derived.Test.YtdakljeladhciaaGreatDoorFg
namespace Go.Proofs.YtdakljeladhciaaGreatDoor
set_option linter.unusedSimpArgs false
set_option linter.unusedVariables false
open Go Go.RowKit
set_option maxRecDepth 100000

set_option maxHeartbeats 800000 in
theorem stat_sp (r1 r2 : List (List Sc)) (b b1 b2 c c1 c2 C1 C2 L1 H1 L2 H2 : Nat) (w : World) (h1 : MatAt w b 0 b1 c1 L1 H1 r1 C1) (h2 : MatAt w b 5 b2 c2 L2 H2 r2 C2) (hc : 2 ≤ c) :
    Calls Tryz.prog 33 #[.string ⟨#[83, 85, 77, 80, 82, 79, 68, 85, 67, 84]⟩, .slice (some ⟨b, 0, none⟩) 2 c] w fun e w' => ∃ x : Sc, e = .returned (.tuple #[x.val, .bool true]) ∧ SpP r1 r2 x ∧ Ext w w' := by
  have HF := Lib.hid (fun w' (hw : Ext w w') => sumproduct_ok r1 r2 b b1 b2 c c1 c2 C1 C2 L1 H1 L2 H2 w' (h1.ext hw) (h2.ext hw) hc)
  clear h1 h2
  go_enter Tryz.func33, Tryz.ntmps33
  go_wp2_with fail
  refine (HF.out _ (by repeat (first | with_reducible exact Below.refl _ _ | with_reducible assumption | ((with_reducible refine Below.setCell ?_ ?_ _); rotate_left; (simp; try omega)) | (with_reducible refine Ext.tr ?_ (by with_reducible assumption)) | (with_reducible refine Ext.al ?_ _) | (with_reducible refine below_drewN ?_ _) | (with_reducible refine Below.drew ?_)))).mono ?_
  rintro e w1 ⟨x, rfl, hfx, hb1⟩
  have HX := Lib.hid hfx; clear hfx
  (obtain ⟨hc1, hf1, hz1⟩ := ext_facts hb1; (try simp at hz1); (have hq1_0 : w.heap.size < w1.heap.size := by omega); (have hl1_0 : w.heap.size ≤ w1.heap.size := by omega); (have hr1_0 := fun o => hc1 (w.heap.size) o (by first | omega | (simp; done) | (simp; omega))); (have hs1_0 := fun o => hf1 (w.heap.size) o (by first | omega | (simp; done) | (simp; omega))); (try simp (disch := first | omega | (simp; omega)) only [World.cell?_alloc_past, World.cell?_drew] at hr1_0); (try simp (disch := first | omega | (simp; omega)) only [World.frozen?_alloc_past, World.frozen?_drew] at hs1_0); clear hc1 hf1)
  obtain ⟨xk, xn, xd, xt⟩ := x
  go_wp2
  exact bodyPost_ret (v := .tuple #[Sc.val ⟨xk, xn, xd, xt⟩, .bool true]) (by simp [results, Tryz.results33, go_sem, *]) rfl ⟨⟨xk, xn, xd, xt⟩, rfl, HX.out, (by repeat (first | with_reducible exact Below.refl _ _ | with_reducible assumption | ((with_reducible refine Below.setCell ?_ ?_ _); rotate_left; (simp; try omega)) | (with_reducible refine Ext.tr ?_ (by with_reducible assumption)) | (with_reducible refine Ext.al ?_ _) | (with_reducible refine below_drewN ?_ _) | (with_reducible refine Below.drew ?_)))⟩

set_option maxHeartbeats 800000 in
theorem fitsNumbers_SP (n d : Int) (t : ByteArray) (a : Option Addr) (r rc : Nat) (b o l c : Nat) (w : World) (hl : 0 < l) (hx : At5m w b o ⟨5, n, d, t, a, r, rc⟩) :
    Calls Tryz.prog 49 #[.string ⟨#[83, 85, 77, 80, 82, 79, 68, 85, 67, 84]⟩, .slice (some ⟨b, o, none⟩) l c] w (Gives w (.tuple #[.bool false, .bool false])) := by
  have HC := Lib.hid (every_mat n d t a r rc b o l c w hl hx)
  go_enter Tryz.func49, Tryz.ntmps49
  go_wp2_with fail
  refine HC.out.mono ?_
  rintro e w1 ⟨rfl, hb⟩
  go_wp2
  go_ret2
  exact ⟨rfl, hb⟩

set_option maxHeartbeats 800000 in
theorem fitsTexts_SUMPRODUCT (a : Option Addr) (n c : Nat) (w : World) : Calls Tryz.prog 50 #[.string ⟨#[83, 85, 77, 80, 82, 79, 68, 85, 67, 84]⟩, .slice a n c] w (Gives w (.tuple #[.bool false, .bool false])) := by
  go_enter Tryz.func50, Tryz.ntmps50
  go_wp2
  go_ret2
  exact ⟨rfl, (by repeat (first | with_reducible exact Below.refl _ _ | with_reducible assumption | ((with_reducible refine Below.setCell ?_ ?_ _); rotate_left; (simp; try omega)) | (with_reducible refine Ext.tr ?_ (by with_reducible assumption)) | (with_reducible refine Ext.al ?_ _) | (with_reducible refine below_drewN ?_ _) | (with_reducible refine Below.drew ?_)))⟩

set_option maxHeartbeats 800000 in
theorem fitsChoices_SUMPRODUCT (a : Option Addr) (n c : Nat) (w : World) : Calls Tryz.prog 51 #[.string ⟨#[83, 85, 77, 80, 82, 79, 68, 85, 67, 84]⟩, .slice a n c] w (Gives w (.tuple #[.bool false, .bool false])) := by
  go_enter Tryz.func51, Tryz.ntmps51
  go_wp2
  go_ret2
  exact ⟨rfl, (by repeat (first | with_reducible exact Below.refl _ _ | with_reducible assumption | ((with_reducible refine Below.setCell ?_ ?_ _); rotate_left; (simp; try omega)) | (with_reducible refine Ext.tr ?_ (by with_reducible assumption)) | (with_reducible refine Ext.al ?_ _) | (with_reducible refine below_drewN ?_ _) | (with_reducible refine Below.drew ?_)))⟩

set_option maxHeartbeats 400000 in
theorem others_SP (w : World) : Calls Tryz.prog 52 #[.string ⟨#[83, 85, 77, 80, 82, 79, 68, 85, 67, 84]⟩] w (Gives w (.bool true)) := by
  go_enter Tryz.func52, Tryz.ntmps52
  go_wp2
  go_ret
  exact ⟨rfl, (by repeat (first | with_reducible exact Below.refl _ _ | with_reducible assumption | ((with_reducible refine Below.setCell ?_ ?_ _); rotate_left; (simp; try omega)) | (with_reducible refine Ext.tr ?_ (by with_reducible assumption)) | (with_reducible refine Ext.al ?_ _) | (with_reducible refine below_drewN ?_ _) | (with_reducible refine Below.drew ?_)))⟩
end Go.Proofs.YtdakljeladhciaaGreatDoor
