/-
  A law's arguments: argPart, argWhole.
-/
import Derived.Test.YtlbhebmjdaaglaaGreatDoorNum
namespace Go.Proofs.YtlbhebmjdaaglaaGreatDoor
set_option linter.unusedSimpArgs false
set_option linter.unusedVariables false
open Go Go.RowKit
set_option maxRecDepth 100000

def clamp (n : Int) : Int := if n < -35184372088832 then -35184372088832 else if 35184372088832 < n then 35184372088832 else n

theorem clamp_le (n : Int) : -35184372088832 ≤ clamp n ∧ clamp n ≤ 35184372088832 := by
  unfold clamp; split
  · omega
  · split <;> omega

set_option maxHeartbeats 800000 in
theorem argPart_ok (n : Int) (w : World) : Calls Tryz.prog 21 #[.int .i64 n] w (NumOr w (clamp n)) := by
  by_cases h1 : n < -35184372088832
  · rw [show clamp n = -35184372088832 from if_pos h1]
    go_enter Tryz.func21, Tryz.ntmps21
    go_wp2_with fail
    refine (frac_16 (-35184372088832) _ (by omega) (by omega)).mono ?_
    rintro e w1 ⟨h, hb1⟩
    obtain ⟨hc, hf, hz⟩ := ext_facts hb1; (try simp at hz); (try (have hq : w.heap.size < w1.heap.size := by omega)); (try (have hq' : w.heap.size ≤ w1.heap.size := by omega)); (try (have hr := fun o => hc w.heap.size o (by first | omega | (simp; done) | (simp; omega)))); (try (have hrf := fun o => hf w.heap.size o (by first | omega | (simp; done) | (simp; omega))))
    rcases h with ⟨n', d', rfl, hd, hZ, q1, q2⟩ | rfl
    · have HD := Lib.hid hd; clear hd
      have HZ := Lib.hid hZ; clear hZ
      go_wp2
      exact bodyPost_ret (v := number n' d') (by simp [results, Tryz.results21, go_sem, *]) rfl ⟨Or.inl ⟨n', d', rfl, HD.out, HZ.out, q1, q2⟩, (by repeat (first | with_reducible exact Below.refl _ _ | with_reducible assumption | ((with_reducible refine Below.setCell ?_ ?_ _); rotate_left; (simp; try omega)) | (with_reducible refine Ext.tr ?_ (by with_reducible assumption)) | (with_reducible refine Ext.al ?_ _) | (with_reducible refine below_drewN ?_ _) | (with_reducible refine Below.drew ?_)))⟩
    · go_wp2
      exact bodyPost_ret (v := unsure) (by simp [results, Tryz.results21, go_sem, *]) rfl ⟨Or.inr rfl, (by repeat (first | with_reducible exact Below.refl _ _ | with_reducible assumption | ((with_reducible refine Below.setCell ?_ ?_ _); rotate_left; (simp; try omega)) | (with_reducible refine Ext.tr ?_ (by with_reducible assumption)) | (with_reducible refine Ext.al ?_ _) | (with_reducible refine below_drewN ?_ _) | (with_reducible refine Below.drew ?_)))⟩
  · by_cases h2 : 35184372088832 < n
    · rw [show clamp n = 35184372088832 by unfold clamp; rw [if_neg h1, if_pos h2]]
      go_enter Tryz.func21, Tryz.ntmps21
      go_wp2_with fail
      refine (frac_16 (35184372088832) _ (by omega) (by omega)).mono ?_
      rintro e w1 ⟨h, hb1⟩
      obtain ⟨hc, hf, hz⟩ := ext_facts hb1; (try simp at hz); (try (have hq : w.heap.size < w1.heap.size := by omega)); (try (have hq' : w.heap.size ≤ w1.heap.size := by omega)); (try (have hr := fun o => hc w.heap.size o (by first | omega | (simp; done) | (simp; omega)))); (try (have hrf := fun o => hf w.heap.size o (by first | omega | (simp; done) | (simp; omega))))
      rcases h with ⟨n', d', rfl, hd, hZ, q1, q2⟩ | rfl
      · have HD := Lib.hid hd; clear hd
        have HZ := Lib.hid hZ; clear hZ
        go_wp2
        exact bodyPost_ret (v := number n' d') (by simp [results, Tryz.results21, go_sem, *]) rfl ⟨Or.inl ⟨n', d', rfl, HD.out, HZ.out, q1, q2⟩, (by repeat (first | with_reducible exact Below.refl _ _ | with_reducible assumption | ((with_reducible refine Below.setCell ?_ ?_ _); rotate_left; (simp; try omega)) | (with_reducible refine Ext.tr ?_ (by with_reducible assumption)) | (with_reducible refine Ext.al ?_ _) | (with_reducible refine below_drewN ?_ _) | (with_reducible refine Below.drew ?_)))⟩
      · go_wp2
        exact bodyPost_ret (v := unsure) (by simp [results, Tryz.results21, go_sem, *]) rfl ⟨Or.inr rfl, (by repeat (first | with_reducible exact Below.refl _ _ | with_reducible assumption | ((with_reducible refine Below.setCell ?_ ?_ _); rotate_left; (simp; try omega)) | (with_reducible refine Ext.tr ?_ (by with_reducible assumption)) | (with_reducible refine Ext.al ?_ _) | (with_reducible refine below_drewN ?_ _) | (with_reducible refine Below.drew ?_)))⟩
    · rw [show clamp n = n by unfold clamp; rw [if_neg h1, if_neg h2]]
      go_enter Tryz.func21, Tryz.ntmps21
      go_wp2_with fail
      refine (frac_16 (n) _ (by omega) (by omega)).mono ?_
      rintro e w1 ⟨h, hb1⟩
      obtain ⟨hc, hf, hz⟩ := ext_facts hb1; (try simp at hz); (try (have hq : w.heap.size < w1.heap.size := by omega)); (try (have hq' : w.heap.size ≤ w1.heap.size := by omega)); (try (have hr := fun o => hc w.heap.size o (by first | omega | (simp; done) | (simp; omega)))); (try (have hrf := fun o => hf w.heap.size o (by first | omega | (simp; done) | (simp; omega))))
      rcases h with ⟨n', d', rfl, hd, hZ, q1, q2⟩ | rfl
      · have HD := Lib.hid hd; clear hd
        have HZ := Lib.hid hZ; clear hZ
        go_wp2
        exact bodyPost_ret (v := number n' d') (by simp [results, Tryz.results21, go_sem, *]) rfl ⟨Or.inl ⟨n', d', rfl, HD.out, HZ.out, q1, q2⟩, (by repeat (first | with_reducible exact Below.refl _ _ | with_reducible assumption | ((with_reducible refine Below.setCell ?_ ?_ _); rotate_left; (simp; try omega)) | (with_reducible refine Ext.tr ?_ (by with_reducible assumption)) | (with_reducible refine Ext.al ?_ _) | (with_reducible refine below_drewN ?_ _) | (with_reducible refine Below.drew ?_)))⟩
      · go_wp2
        exact bodyPost_ret (v := unsure) (by simp [results, Tryz.results21, go_sem, *]) rfl ⟨Or.inr rfl, (by repeat (first | with_reducible exact Below.refl _ _ | with_reducible assumption | ((with_reducible refine Below.setCell ?_ ?_ _); rotate_left; (simp; try omega)) | (with_reducible refine Ext.tr ?_ (by with_reducible assumption)) | (with_reducible refine Ext.al ?_ _) | (with_reducible refine below_drewN ?_ _) | (with_reducible refine Below.drew ?_)))⟩

set_option maxHeartbeats 400000 in
theorem argWhole_yes (n : Int) (w : World) (h1 : -99999999999 ≤ n) (h2 : n ≤ 99999999999) : Calls Tryz.prog 17 #[.int .i64 n] w (Gives w (number n 1)) := by
  go_enter Tryz.func17, Tryz.ntmps17
  go_wp2_with (go_at_call 36; refine (int_ok _ _ (by omega) (by omega)).mono ?_; rintro e w1 ⟨rfl, hb⟩; obtain ⟨hc, hf, hz⟩ := ext_facts hb; (try simp at hz); (try (have hq : w.heap.size < w1.heap.size := by omega)); (try (have hq' : w.heap.size ≤ w1.heap.size := by omega)); (try (have hr := fun o => hc w.heap.size o (by first | omega | (simp; done) | (simp; omega)))); (try (have hrf := fun o => hf w.heap.size o (by first | omega | (simp; done) | (simp; omega)))))
  exact bodyPost_ret (v := number n 1) (by simp [results, Tryz.results17, go_sem, *]) rfl ⟨rfl, (by repeat (first | with_reducible exact Below.refl _ _ | with_reducible assumption | ((with_reducible refine Below.setCell ?_ ?_ _); rotate_left; (simp; try omega)) | (with_reducible refine Ext.tr ?_ (by with_reducible assumption)) | (with_reducible refine Ext.al ?_ _) | (with_reducible refine below_drewN ?_ _) | (with_reducible refine Below.drew ?_)))⟩

set_option maxHeartbeats 400000 in
theorem argWhole_no (n : Int) (w : World) (h : 99999999999 < n ∨ n < -99999999999) : Calls Tryz.prog 17 #[.int .i64 n] w (Gives w unsure) := by
  go_enter Tryz.func17, Tryz.ntmps17
  go_wp2_with (go_at_call 36; refine (int_big _ _ h).mono ?_; rintro e w1 ⟨rfl, hb⟩; obtain ⟨hc, hf, hz⟩ := ext_facts hb; (try simp at hz); (try (have hq : w.heap.size < w1.heap.size := by omega)); (try (have hq' : w.heap.size ≤ w1.heap.size := by omega)); (try (have hr := fun o => hc w.heap.size o (by first | omega | (simp; done) | (simp; omega)))); (try (have hrf := fun o => hf w.heap.size o (by first | omega | (simp; done) | (simp; omega)))))
  exact bodyPost_ret (v := unsure) (by simp [results, Tryz.results17, go_sem, *]) rfl ⟨rfl, (by repeat (first | with_reducible exact Below.refl _ _ | with_reducible assumption | ((with_reducible refine Below.setCell ?_ ?_ _); rotate_left; (simp; try omega)) | (with_reducible refine Ext.tr ?_ (by with_reducible assumption)) | (with_reducible refine Ext.al ?_ _) | (with_reducible refine below_drewN ?_ _) | (with_reducible refine Below.drew ?_)))⟩

/-- argWhole: the number, or nothing is said of it. -/
def WholeOk (n : Int) (x : Sc) : Prop := (x = ⟨1, n, 1, ⟨#[]⟩⟩ ∧ -99999999999 ≤ n ∧ n ≤ 99999999999) ∨ x = ⟨6, 0, 0, ⟨#[]⟩⟩

theorem argWhole_ok (n : Int) (w : World) : Calls Tryz.prog 17 #[.int .i64 n] w fun e w' => ∃ x : Sc, e = .returned x.val ∧ WholeOk n x ∧ Ext w w' := by
  by_cases h : -99999999999 ≤ n ∧ n ≤ 99999999999
  · refine (argWhole_yes n w h.1 h.2).mono ?_
    rintro e w' ⟨rfl, hb⟩
    exact ⟨⟨1, n, 1, ⟨#[]⟩⟩, rfl, Or.inl ⟨rfl, h⟩, hb⟩
  · refine (argWhole_no n w (by omega)).mono ?_
    rintro e w' ⟨rfl, hb⟩
    exact ⟨⟨6, 0, 0, ⟨#[]⟩⟩, rfl, Or.inr rfl, hb⟩

theorem WholeOk.kind {n : Int} {x : Sc} (h : WholeOk n x) : x.k = 1 ∨ x.k = 6 := by
  rcases h with ⟨rfl, _⟩ | rfl
  · exact Or.inl rfl
  · exact Or.inr rfl
end Go.Proofs.YtlbhebmjdaaglaaGreatDoor
