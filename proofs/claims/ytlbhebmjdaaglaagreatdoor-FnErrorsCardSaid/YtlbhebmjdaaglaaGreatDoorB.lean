/-
  Contracts of the reference's small functions: its values, Frac, AsNumber, numeric.
-/
import Derived.Test.YtlbhebmjdaaglaaGreatDoorA
namespace Go.Proofs.YtlbhebmjdaaglaaGreatDoor
set_option linter.unusedSimpArgs false
set_option linter.unusedVariables false
open Go Go.RowKit

set_option maxHeartbeats 400000 in
theorem doubt_any (w : World) : Calls Tryz.prog 25 #[] w (Gives w unsure) := by
  go_enter Tryz.func25, Tryz.ntmps25
  go_wp2
  exact bodyPost_ret (v := unsure) (by simp [results, Tryz.results25, go_sem, *]) rfl ⟨rfl, (by repeat (first | with_reducible exact Below.refl _ _ | with_reducible assumption | ((with_reducible refine Below.setCell ?_ ?_ _); rotate_left; (simp; try omega)) | (with_reducible refine Ext.tr ?_ (by with_reducible assumption)) | (with_reducible refine Ext.al ?_ _) | (with_reducible refine below_drewN ?_ _) | (with_reducible refine Below.drew ?_)))⟩

set_option maxHeartbeats 400000 in
theorem int_ok (n : Int) (w : World) (h : n ≤ 99999999999) (h' : -99999999999 ≤ n) : Calls Tryz.prog 36 #[.int .i64 n] w (Gives w (number n 1)) := by
  go_enter Tryz.func36, Tryz.ntmps36
  go_wp2
  exact bodyPost_ret (v := number n 1) (by simp [results, Tryz.results36, go_sem, *]) rfl ⟨rfl, (by repeat (first | with_reducible exact Below.refl _ _ | with_reducible assumption | ((with_reducible refine Below.setCell ?_ ?_ _); rotate_left; (simp; try omega)) | (with_reducible refine Ext.tr ?_ (by with_reducible assumption)) | (with_reducible refine Ext.al ?_ _) | (with_reducible refine below_drewN ?_ _) | (with_reducible refine Below.drew ?_)))⟩

set_option maxHeartbeats 400000 in
theorem int_big (n : Int) (w : World) (h : 99999999999 < n ∨ n < -99999999999) : Calls Tryz.prog 36 #[.int .i64 n] w (Gives w unsure) := by
  go_enter Tryz.func36, Tryz.ntmps36
  rcases h with h | h
  all_goals
    go_wp2_with (go_at_call 25; refine (doubt_any _).mono ?_; rintro e w1 ⟨rfl, hb⟩; obtain ⟨hc, hf, hz⟩ := ext_facts hb; (try simp at hz); (try (have hq : w.heap.size < w1.heap.size := by omega)); (try (have hq' : w.heap.size ≤ w1.heap.size := by omega)); (try (have hr := fun o => hc w.heap.size o (by first | omega | (simp; done) | (simp; omega)))); (try (have hrf := fun o => hf w.heap.size o (by first | omega | (simp; done) | (simp; omega)))))
    exact bodyPost_ret (v := unsure) (by simp [results, Tryz.results36, go_sem, *]) rfl ⟨rfl, (by repeat (first | with_reducible exact Below.refl _ _ | with_reducible assumption | ((with_reducible refine Below.setCell ?_ ?_ _); rotate_left; (simp; try omega)) | (with_reducible refine Ext.tr ?_ (by with_reducible assumption)) | (with_reducible refine Ext.al ?_ _) | (with_reducible refine below_drewN ?_ _) | (with_reducible refine Below.drew ?_)))⟩

/-- The denominators: 1, 2, 4, 8, 16. -/
def Den (d : Int) : Prop := d = 1 ∨ d = 2 ∨ d = 4 ∨ d = 8 ∨ d = 16

/-- A number of Z sixteenths, or the value of which nothing is said. -/
def NumOr (w : World) (Z : Int) (e : Ending) (w' : World) : Prop :=
  ((∃ n d : Int, e = .returned (number n d) ∧ Den d ∧ n * (16 / d) = Z ∧ -99999999999 ≤ n ∧ n ≤ 99999999999) ∨ e = .returned unsure) ∧ Ext w w'

/-- The loop of Frac: n / d keeps its value. -/
def Half (Z : Int) (a b : Value) : Prop := ∃ n d : Int, a = .int .i64 n ∧ b = .int .i64 d ∧ Den d ∧ n * (16 / d) = Z ∧ -36028797018963968 ≤ n ∧ n ≤ 36028797018963968

theorem tdiv_two {n : Int} (h : n.tmod 2 = 0) : n.tdiv 2 * 2 = n := by
  have := Int.mul_tdiv_add_tmod n 2; omega

theorem tmod_of_emod {q : Int} (h : q % 2 = 0) : q.tmod 2 = 0 := by
  obtain ⟨k, rfl⟩ := Int.dvd_of_emod_eq_zero h
  exact Int.mul_tmod_right 2 k

theorem half_step {Z n d : Int} (hd : Den d) (h : n * (16 / d) = Z) (h1 : 1 < d) (h2 : n.tmod 2 = 0) (h3 : -36028797018963968 ≤ n) (h4 : n ≤ 36028797018963968) :
    Half Z (.int .i64 (n.tdiv 2)) (.int .i64 (d / 2)) := by
  have e := tdiv_two h2
  rcases hd with rfl | rfl | rfl | rfl | rfl
  · omega
  · exact ⟨_, 1, rfl, rfl, Or.inl rfl, by omega, by omega, by omega⟩
  · exact ⟨_, 2, rfl, rfl, Or.inr (Or.inl rfl), by omega, by omega, by omega⟩
  · exact ⟨_, 4, rfl, rfl, Or.inr (Or.inr (Or.inl rfl)), by omega, by omega, by omega⟩
  · exact ⟨_, 8, rfl, rfl, Or.inr (Or.inr (Or.inr (Or.inl rfl))), by omega, by omega, by omega⟩

set_option maxHeartbeats 400000 in
theorem frac_16 (n : Int) (w : World) (h : n ≤ 1125899906842624) (h' : -1125899906842624 ≤ n) : Calls Tryz.prog 23 #[.int .i64 n, .int .i64 16] w (NumOr w n) := by
  go_enter Tryz.func23, Tryz.ntmps23
  go_wp2
  go_loop [0, 1] (fun a b => Half n a b) (fun _ b => (intOf b).toNat)
  case atStart => exact ⟨n, 16, rfl, rfl, Or.inr (Or.inr (Or.inr (Or.inr rfl))), by omega, by omega, by omega⟩
  case round =>
    obtain ⟨q, d, rfl, rfl, hd, hZ, hq1, hq2⟩ := hrel
    have hdb : 1 ≤ d ∧ d ≤ 16 := by rcases hd with rfl | rfl | rfl | rfl | rfl <;> omega
    obtain ⟨hdb1, hdb2⟩ := hdb
    have HZ := Lib.hid hZ
    clear hZ
    by_cases hc : 1 < d ∧ q.tmod 2 = 0
    · obtain ⟨hc1, hc2⟩ := hc
      have HS := Lib.hid (half_step hd HZ.out hc1 hc2 hq1 hq2)
      have hc3 : (q.tmod 2 == 0) = true := by rw [hc2]; rfl
      clear hc2
      go_wp2
      go_round
      case rel => exact HS.out
      case measure => simp [intOf]; omega
    · have hx : d ≤ 1 ∨ (1 < d ∧ (q.tmod 2 == 0) = false ∧ (q % 2 == 0) = false) := by
        by_cases h1 : 1 < d
        · exact Or.inr ⟨h1, by rw [beq_eq_false_iff_ne]; exact fun e => hc ⟨h1, e⟩, by rw [beq_eq_false_iff_ne]; exact fun e => hc ⟨h1, tmod_of_emod e⟩⟩
        · exact Or.inl (by omega)
      clear hc
      have hs : (99999999999 < q ∨ q < -99999999999) ∨ (q ≤ 99999999999 ∧ -99999999999 ≤ q) := by omega
      rcases hs with hs | ⟨hs1, hs2⟩
      · rcases hx with hx | ⟨hx, hx2, hx3⟩ <;> rcases hs with hs | hs
        all_goals
          go_wp2_with (go_at_call 25; refine (doubt_any _).mono ?_; rintro e w1 ⟨rfl, hb⟩; obtain ⟨hc, hf, hz⟩ := ext_facts hb; (try simp at hz); (try (have hq : w.heap.size < w1.heap.size := by omega)); (try (have hq' : w.heap.size ≤ w1.heap.size := by omega)); (try (have hr := fun o => hc w.heap.size o (by first | omega | (simp; done) | (simp; omega)))); (try (have hrf := fun o => hf w.heap.size o (by first | omega | (simp; done) | (simp; omega)))))
          exact bodyPost_ret (v := unsure) (by simp [results, Tryz.results23, go_sem, *]) rfl ⟨Or.inr rfl, (by repeat (first | with_reducible exact Below.refl _ _ | with_reducible assumption | ((with_reducible refine Below.setCell ?_ ?_ _); rotate_left; (simp; try omega)) | (with_reducible refine Ext.tr ?_ (by with_reducible assumption)) | (with_reducible refine Ext.al ?_ _) | (with_reducible refine below_drewN ?_ _) | (with_reducible refine Below.drew ?_)))⟩
      · rcases hx with hx | ⟨hx, hx2, hx3⟩
        all_goals
          go_wp2
          exact bodyPost_ret (v := number q d) (by simp [results, Tryz.results23, go_sem, *]) rfl ⟨Or.inl ⟨q, d, rfl, hd, HZ.out, hs2, hs1⟩, (by repeat (first | with_reducible exact Below.refl _ _ | with_reducible assumption | ((with_reducible refine Below.setCell ?_ ?_ _); rotate_left; (simp; try omega)) | (with_reducible refine Ext.tr ?_ (by with_reducible assumption)) | (with_reducible refine Ext.al ?_ _) | (with_reducible refine below_drewN ?_ _) | (with_reducible refine Below.drew ?_)))⟩

end Go.Proofs.YtlbhebmjdaaglaaGreatDoor
