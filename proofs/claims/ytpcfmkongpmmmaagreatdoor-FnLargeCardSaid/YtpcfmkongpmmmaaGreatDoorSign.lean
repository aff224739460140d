/-
  SIGN: the reference's side.
-/
import Derived.Test.YtpcfmkongpmmmaaGreatDoorE
namespace Go.Proofs.YtpcfmkongpmmmaaGreatDoor
set_option linter.unusedSimpArgs false
set_option linter.unusedVariables false
open Go Go.RowKit
set_option maxRecDepth 100000

def sgn (n : Int) : Int := if n < 0 then -1 else if n = 0 then 0 else 1

set_option maxHeartbeats 800000 in
theorem one_sign (x : Sc) (b o c : Nat) (w : World) (hx : Lie w b o [x]) (hk : x.k = 1) (h1 : x.n ≤ 99999999999) (h2 : -99999999999 ≤ x.n) :
    Calls Tryz.prog 81 #[.string ⟨#[83, 73, 71, 78]⟩, .slice (some ⟨b, o, none⟩) 1 c] w (Gives w (number (sgn x.n) 1)) := by
  have HX := Lib.hid hx; clear hx
  have HK := Lib.hid hk; clear hk
  go_enter Tryz.func81, Tryz.ntmps81
  go_wp2_with fail
  refine (numbers_ok [x] b o c _ (by simp) (HX.out.ext ((Ext.rf _).al _)) (by simp) (by simp [HK.out])).mono ?_
  rintro e w1 ⟨v, rfl, hown, hb⟩
  obtain ⟨hc, hf, hz⟩ := ext_facts hb; (try simp at hz); (try (have hq : w.heap.size < w1.heap.size := by omega)); (try (have hq' : w.heap.size ≤ w1.heap.size := by omega)); (try (have hr := fun o => hc w.heap.size o (by first | omega | (simp; done) | (simp; omega)))); (try (have hrf := fun o => hf w.heap.size o (by first | omega | (simp; done) | (simp; omega))))
  obtain ⟨g, cap, rfl, hg, hlie⟩ := hown.lie (by simp)
  obtain ⟨c0, c1, c2, c3, c4⟩ := hlie.head (i := 0) rfl
  simp only [Nat.zero_mul, Nat.zero_add] at c0 c1 c2 c3 c4
  have hglt : g < w1.heap.size := lt_of_cell c0
  clear hown hlie
  go_wp2_with fail
  go_quiet (fail)
  rcases (show x.n < 0 ∨ x.n = 0 ∨ 0 < x.n by omega) with hn | hn | hn
  · have hm : (if x.n < -1 then (-1 : Int) else x.n) = -1 := by split <;> omega
    have hs : sgn x.n = -1 := if_pos hn
    have HS := Lib.hid hs
    clear hs
    go_wp2_with (go_at_call 8; refine (int_ok _ _ (by omega) (by omega)).mono ?_; rintro e w1 ⟨rfl, hb⟩; obtain ⟨hc, hf, hz⟩ := ext_facts hb; (try simp at hz); (try (have hq : w.heap.size < w1.heap.size := by omega)); (try (have hq' : w.heap.size ≤ w1.heap.size := by omega)); (try (have hr := fun o => hc w.heap.size o (by first | omega | (simp; done) | (simp; omega)))); (try (have hrf := fun o => hf w.heap.size o (by first | omega | (simp; done) | (simp; omega)))))
    exact bodyPost_ret (v := number (-1) 1) (by simp [results, Tryz.results81, go_sem, *]) rfl ⟨by rw [HS.out], (by repeat (first | with_reducible exact Below.refl _ _ | with_reducible assumption | ((with_reducible refine Below.setCell ?_ ?_ _); rotate_left; (simp; try omega)) | (with_reducible refine Ext.tr ?_ (by with_reducible assumption)) | (with_reducible refine Ext.al ?_ _) | (with_reducible refine below_drewN ?_ _) | (with_reducible refine Below.drew ?_)))⟩
  · have hs : sgn x.n = 0 := by rw [hn]; rfl
    have HS := Lib.hid hs
    clear hs
    go_wp2_with (go_at_call 8; refine (int_ok _ _ (by omega) (by omega)).mono ?_; rintro e w1 ⟨rfl, hb⟩; obtain ⟨hc, hf, hz⟩ := ext_facts hb; (try simp at hz); (try (have hq : w.heap.size < w1.heap.size := by omega)); (try (have hq' : w.heap.size ≤ w1.heap.size := by omega)); (try (have hr := fun o => hc w.heap.size o (by first | omega | (simp; done) | (simp; omega)))); (try (have hrf := fun o => hf w.heap.size o (by first | omega | (simp; done) | (simp; omega)))))
    exact bodyPost_ret (v := number 0 1) (by simp [results, Tryz.results81, go_sem, *]) rfl ⟨by rw [HS.out], (by repeat (first | with_reducible exact Below.refl _ _ | with_reducible assumption | ((with_reducible refine Below.setCell ?_ ?_ _); rotate_left; (simp; try omega)) | (with_reducible refine Ext.tr ?_ (by with_reducible assumption)) | (with_reducible refine Ext.al ?_ _) | (with_reducible refine below_drewN ?_ _) | (with_reducible refine Below.drew ?_)))⟩
  · have hm : (if x.n ≤ 1 then x.n else (1 : Int)) = 1 := by split <;> omega
    have hs : sgn x.n = 1 := by unfold sgn; rw [if_neg (by omega), if_neg (by omega)]
    have HS := Lib.hid hs
    clear hs
    go_wp2_with (go_at_call 8; refine (int_ok _ _ (by omega) (by omega)).mono ?_; rintro e w1 ⟨rfl, hb⟩; obtain ⟨hc, hf, hz⟩ := ext_facts hb; (try simp at hz); (try (have hq : w.heap.size < w1.heap.size := by omega)); (try (have hq' : w.heap.size ≤ w1.heap.size := by omega)); (try (have hr := fun o => hc w.heap.size o (by first | omega | (simp; done) | (simp; omega)))); (try (have hrf := fun o => hf w.heap.size o (by first | omega | (simp; done) | (simp; omega)))))
    all_goals try have hx1 : x.n = 1 := by omega
    all_goals exact bodyPost_ret (v := number 1 1) (by simp [results, Tryz.results81, go_sem, *]) rfl ⟨by rw [HS.out], (by repeat (first | with_reducible exact Below.refl _ _ | with_reducible assumption | ((with_reducible refine Below.setCell ?_ ?_ _); rotate_left; (simp; try omega)) | (with_reducible refine Ext.tr ?_ (by with_reducible assumption)) | (with_reducible refine Ext.al ?_ _) | (with_reducible refine below_drewN ?_ _) | (with_reducible refine Below.drew ?_)))⟩
end Go.Proofs.YtpcfmkongpmmmaaGreatDoor
