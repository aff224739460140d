/-
  Frac of any numerator and denominator; every, where the predicate says one of both.
-/
import Derived.Test.YtlbhebmjdaaglaaGreatDoorC
namespace Go.Proofs.YtlbhebmjdaaglaaGreatDoor
set_option linter.unusedSimpArgs false
set_option linter.unusedVariables false
open Go Go.RowKit
set_option maxRecDepth 100000

/-- A number of the reference, or the value of which nothing is said. -/
def NumD (x : Sc) : Prop := x = ⟨6, 0, 0, ⟨#[]⟩⟩ ∨ (x.k = 1 ∧ Den x.d ∧ -99999999999 ≤ x.n ∧ x.n ≤ 99999999999 ∧ x.t = ⟨#[]⟩)

theorem numD_num {n d : Int} (hd : Den d) (h1 : -99999999999 ≤ n) (h2 : n ≤ 99999999999) : NumD ⟨1, n, d, ⟨#[]⟩⟩ := Or.inr ⟨rfl, hd, h1, h2, rfl⟩

theorem tdiv_le {a b : Int} (M : Int) (h1 : -M ≤ a) (h2 : a ≤ M) : -M ≤ a.tdiv b ∧ a.tdiv b ≤ M := by
  have h : (a.tdiv b).natAbs = a.natAbs / b.natAbs := Int.natAbs_tdiv a b
  have h3 := Nat.div_le_self a.natAbs b.natAbs
  rw [← h] at h3
  omega

set_option maxHeartbeats 1600000 in
theorem frac_any (n d : Int) (w : World) (h : n ≤ 1000000000000) (h' : -1000000000000 ≤ n) (d1 : 1 ≤ d) (d2 : d ≤ 100000) :
    Calls Tryz.prog 23 #[.int .i64 n, .int .i64 d] w fun e w' => ∃ x : Sc, e = .returned x.val ∧ NumD x ∧ Ext w w' := by
  obtain ⟨b1, b2⟩ := tdiv_le (a := n * 16) (b := d) 16000000000000 (by omega) (by omega)
  have hd0 : (d == 0) = false := by rw [beq_eq_false_iff_ne]; omega
  have hd1 : ¬ 1048576 < d := by omega
  have hn1 : ¬ 1125899906842624 < n := by omega
  have hn2 : ¬ n < -1125899906842624 := by omega
  by_cases hm : (n * 16).tmod d = 0
  · generalize hQ : (n * 16).tdiv d = Q at b1 b2
    have hQ' := Lib.hid hQ
    go_enter Tryz.func23, Tryz.ntmps23
    go_wp2
    go_loop [0, 1] (fun a b => Half Q a b) (fun _ b => (intOf b).toNat)
    case atStart => exact ⟨Q, 16, by simp [hQ'.out], rfl, Or.inr (Or.inr (Or.inr (Or.inr rfl))), by omega, by omega, by omega⟩
    case round =>
      obtain ⟨q, e, rfl, rfl, hd, hZ, hq1, hq2⟩ := hrel
      have hdb : 1 ≤ e ∧ e ≤ 16 := by rcases hd with rfl | rfl | rfl | rfl | rfl <;> omega
      obtain ⟨hdb1, hdb2⟩ := hdb
      have HZ := Lib.hid hZ
      clear hZ
      by_cases hc : 1 < e ∧ q.tmod 2 = 0
      · obtain ⟨hc1, hc2⟩ := hc
        have HS := Lib.hid (half_step hd HZ.out hc1 hc2 hq1 hq2)
        have hc3 : (q.tmod 2 == 0) = true := by rw [hc2]; rfl
        clear hc2
        go_wp2
        go_round
        case rel => exact HS.out
        case measure => simp [intOf]; omega
      · have hx : e ≤ 1 ∨ (1 < e ∧ (q.tmod 2 == 0) = false ∧ (q % 2 == 0) = false) := by
          by_cases h1 : 1 < e
          · exact Or.inr ⟨h1, by rw [beq_eq_false_iff_ne]; exact fun e => hc ⟨h1, e⟩, by rw [beq_eq_false_iff_ne]; exact fun e => hc ⟨h1, tmod_of_emod e⟩⟩
          · exact Or.inl (by omega)
        clear hc
        have hs : (99999999999 < q ∨ q < -99999999999) ∨ (q ≤ 99999999999 ∧ -99999999999 ≤ q) := by omega
        rcases hs with hs | ⟨hs1, hs2⟩
        · rcases hx with hx | ⟨hx, hx2, hx3⟩ <;> rcases hs with hs | hs
          all_goals
            go_wp2_with (go_at_call 25; refine (doubt_any _).mono ?_; rintro e w1 ⟨rfl, hb⟩; obtain ⟨hc, hf, hz⟩ := ext_facts hb; (try simp at hz); (try (have hq : w.heap.size < w1.heap.size := by omega)); (try (have hq' : w.heap.size ≤ w1.heap.size := by omega)); (try (have hr := fun o => hc w.heap.size o (by first | omega | (simp; done) | (simp; omega)))); (try (have hrf := fun o => hf w.heap.size o (by first | omega | (simp; done) | (simp; omega)))))
            exact bodyPost_ret (v := unsure) (by simp [results, Tryz.results23, go_sem, *]) rfl ⟨⟨6, 0, 0, ⟨#[]⟩⟩, rfl, Or.inl rfl, (by repeat (first | with_reducible exact Below.refl _ _ | with_reducible assumption | ((with_reducible refine Below.setCell ?_ ?_ _); rotate_left; (simp; try omega)) | (with_reducible refine Ext.tr ?_ (by with_reducible assumption)) | (with_reducible refine Ext.al ?_ _) | (with_reducible refine below_drewN ?_ _) | (with_reducible refine Below.drew ?_)))⟩
        · rcases hx with hx | ⟨hx, hx2, hx3⟩
          all_goals
            go_wp2
            exact bodyPost_ret (v := number q e) (by simp [results, Tryz.results23, go_sem, *]) rfl ⟨⟨1, q, e, ⟨#[]⟩⟩, rfl, numD_num hd hs2 hs1, (by repeat (first | with_reducible exact Below.refl _ _ | with_reducible assumption | ((with_reducible refine Below.setCell ?_ ?_ _); rotate_left; (simp; try omega)) | (with_reducible refine Ext.tr ?_ (by with_reducible assumption)) | (with_reducible refine Ext.al ?_ _) | (with_reducible refine below_drewN ?_ _) | (with_reducible refine Below.drew ?_)))⟩
  · have hm2 : ((n * 16).tmod d == 0) = false := by rw [beq_eq_false_iff_ne]; exact hm
    have hm3 : ((n * 16).tmod d != 0) = true := by rw [bne_iff_ne]; exact hm
    go_enter Tryz.func23, Tryz.ntmps23
    go_wp2_with (go_at_call 25; refine (doubt_any _).mono ?_; rintro e w1 ⟨rfl, hb⟩; obtain ⟨hc, hf, hz⟩ := ext_facts hb; (try simp at hz); (try (have hq : w.heap.size < w1.heap.size := by omega)); (try (have hq' : w.heap.size ≤ w1.heap.size := by omega)); (try (have hr := fun o => hc w.heap.size o (by first | omega | (simp; done) | (simp; omega)))); (try (have hrf := fun o => hf w.heap.size o (by first | omega | (simp; done) | (simp; omega)))))
    exact bodyPost_ret (v := unsure) (by simp [results, Tryz.results23, go_sem, *]) rfl ⟨⟨6, 0, 0, ⟨#[]⟩⟩, rfl, Or.inl rfl, (by repeat (first | with_reducible exact Below.refl _ _ | with_reducible assumption | ((with_reducible refine Below.setCell ?_ ?_ _); rotate_left; (simp; try omega)) | (with_reducible refine Ext.tr ?_ (by with_reducible assumption)) | (with_reducible refine Ext.al ?_ _) | (with_reducible refine below_drewN ?_ _) | (with_reducible refine Below.drew ?_)))⟩
end Go.Proofs.YtlbhebmjdaaglaaGreatDoor
