/-
  FnSignOf: what the call comes to.
-/
import Derived.Test.YtkhbljlnpgpaaaaGreatDoorPSign
namespace Go.Proofs.YtkhbljlnpgpaaaaGreatDoor
open Go Go.RowKit
set_option maxRecDepth 100000

def clamp (n : Int) : Int := if n < -35184372088832 then -35184372088832 else if 35184372088832 < n then 35184372088832 else n

theorem clamp_le (n : Int) : -35184372088832 ≤ clamp n ∧ clamp n ≤ 35184372088832 := by
  unfold clamp; split
  · omega
  · split <;> omega

set_option maxHeartbeats 800000 in
theorem argPart_ok (n : Int) (w : World) : Calls Tryz.prog 6 #[.int .i64 n] w (NumOr w (clamp n)) := by
  by_cases h1 : n < -35184372088832
  · rw [show clamp n = -35184372088832 from if_pos h1]
    go_enter Tryz.func6, Tryz.ntmps6
    go_wp2_with fail
    refine (frac_16 (-35184372088832) _ (by omega) (by omega)).mono ?_
    rintro e w1 ⟨h, hb1⟩
    obtain ⟨hc, hf, hz⟩ := ext_facts hb1; (try simp at hz); (try (have hq : w.heap.size < w1.heap.size := by omega)); (try (have hq' : w.heap.size ≤ w1.heap.size := by omega)); (try (have hr := fun o => hc w.heap.size o (by simp; omega))); (try (have hrf := fun o => hf w.heap.size o (by simp; omega)))
    rcases h with ⟨n', d', rfl, hd, hZ, q1, q2⟩ | rfl
    · have HD := Lib.hid hd; clear hd
      have HZ := Lib.hid hZ; clear hZ
      go_wp2
      exact bodyPost_ret (v := number n' d') (by simp [results, Tryz.results6, go_sem, *]) rfl ⟨Or.inl ⟨n', d', rfl, HD.out, HZ.out, q1, q2⟩, (by repeat (first | with_reducible exact Below.refl _ _ | with_reducible assumption | ((with_reducible refine Below.setCell ?_ ?_ _); rotate_left; (simp; try omega)) | (with_reducible refine Ext.tr ?_ (by with_reducible assumption)) | (with_reducible refine Ext.al ?_ _) | (with_reducible refine below_drewN ?_ _) | (with_reducible refine Below.drew ?_)))⟩
    · go_wp2
      exact bodyPost_ret (v := unsure) (by simp [results, Tryz.results6, go_sem, *]) rfl ⟨Or.inr rfl, (by repeat (first | with_reducible exact Below.refl _ _ | with_reducible assumption | ((with_reducible refine Below.setCell ?_ ?_ _); rotate_left; (simp; try omega)) | (with_reducible refine Ext.tr ?_ (by with_reducible assumption)) | (with_reducible refine Ext.al ?_ _) | (with_reducible refine below_drewN ?_ _) | (with_reducible refine Below.drew ?_)))⟩
  · by_cases h2 : 35184372088832 < n
    · rw [show clamp n = 35184372088832 by unfold clamp; rw [if_neg h1, if_pos h2]]
      go_enter Tryz.func6, Tryz.ntmps6
      go_wp2_with fail
      refine (frac_16 (35184372088832) _ (by omega) (by omega)).mono ?_
      rintro e w1 ⟨h, hb1⟩
      obtain ⟨hc, hf, hz⟩ := ext_facts hb1; (try simp at hz); (try (have hq : w.heap.size < w1.heap.size := by omega)); (try (have hq' : w.heap.size ≤ w1.heap.size := by omega)); (try (have hr := fun o => hc w.heap.size o (by simp; omega))); (try (have hrf := fun o => hf w.heap.size o (by simp; omega)))
      rcases h with ⟨n', d', rfl, hd, hZ, q1, q2⟩ | rfl
      · have HD := Lib.hid hd; clear hd
        have HZ := Lib.hid hZ; clear hZ
        go_wp2
        exact bodyPost_ret (v := number n' d') (by simp [results, Tryz.results6, go_sem, *]) rfl ⟨Or.inl ⟨n', d', rfl, HD.out, HZ.out, q1, q2⟩, (by repeat (first | with_reducible exact Below.refl _ _ | with_reducible assumption | ((with_reducible refine Below.setCell ?_ ?_ _); rotate_left; (simp; try omega)) | (with_reducible refine Ext.tr ?_ (by with_reducible assumption)) | (with_reducible refine Ext.al ?_ _) | (with_reducible refine below_drewN ?_ _) | (with_reducible refine Below.drew ?_)))⟩
      · go_wp2
        exact bodyPost_ret (v := unsure) (by simp [results, Tryz.results6, go_sem, *]) rfl ⟨Or.inr rfl, (by repeat (first | with_reducible exact Below.refl _ _ | with_reducible assumption | ((with_reducible refine Below.setCell ?_ ?_ _); rotate_left; (simp; try omega)) | (with_reducible refine Ext.tr ?_ (by with_reducible assumption)) | (with_reducible refine Ext.al ?_ _) | (with_reducible refine below_drewN ?_ _) | (with_reducible refine Below.drew ?_)))⟩
    · rw [show clamp n = n by unfold clamp; rw [if_neg h1, if_neg h2]]
      go_enter Tryz.func6, Tryz.ntmps6
      go_wp2_with fail
      refine (frac_16 (n) _ (by omega) (by omega)).mono ?_
      rintro e w1 ⟨h, hb1⟩
      obtain ⟨hc, hf, hz⟩ := ext_facts hb1; (try simp at hz); (try (have hq : w.heap.size < w1.heap.size := by omega)); (try (have hq' : w.heap.size ≤ w1.heap.size := by omega)); (try (have hr := fun o => hc w.heap.size o (by simp; omega))); (try (have hrf := fun o => hf w.heap.size o (by simp; omega)))
      rcases h with ⟨n', d', rfl, hd, hZ, q1, q2⟩ | rfl
      · have HD := Lib.hid hd; clear hd
        have HZ := Lib.hid hZ; clear hZ
        go_wp2
        exact bodyPost_ret (v := number n' d') (by simp [results, Tryz.results6, go_sem, *]) rfl ⟨Or.inl ⟨n', d', rfl, HD.out, HZ.out, q1, q2⟩, (by repeat (first | with_reducible exact Below.refl _ _ | with_reducible assumption | ((with_reducible refine Below.setCell ?_ ?_ _); rotate_left; (simp; try omega)) | (with_reducible refine Ext.tr ?_ (by with_reducible assumption)) | (with_reducible refine Ext.al ?_ _) | (with_reducible refine below_drewN ?_ _) | (with_reducible refine Below.drew ?_)))⟩
      · go_wp2
        exact bodyPost_ret (v := unsure) (by simp [results, Tryz.results6, go_sem, *]) rfl ⟨Or.inr rfl, (by repeat (first | with_reducible exact Below.refl _ _ | with_reducible assumption | ((with_reducible refine Below.setCell ?_ ?_ _); rotate_left; (simp; try omega)) | (with_reducible refine Ext.tr ?_ (by with_reducible assumption)) | (with_reducible refine Ext.al ?_ _) | (with_reducible refine below_drewN ?_ _) | (with_reducible refine Below.drew ?_)))⟩

theorem sgn_den {n d Z : Int} (hd : Den d) (hZ : n * (16 / d) = Z) : sgn Z = sgn n := by
  have key : ∀ k : Int, 0 < k → n * k = Z → sgn Z = sgn n := by
    intro k hk e
    unfold sgn
    rcases Int.lt_trichotomy n 0 with h | h | h
    · have : Z < 0 := by rw [← e]; exact Int.mul_neg_of_neg_of_pos h hk
      rw [if_pos h, if_pos this]
    · subst h; rw [Int.zero_mul] at e; subst e; rfl
    · have : 0 < Z := by rw [← e]; exact Int.mul_pos h hk
      rw [if_neg (by omega), if_neg (by omega), if_neg (by omega), if_neg (by omega)]
  rcases hd with rfl | rfl | rfl | rfl | rfl
  · exact key 16 (by omega) hZ
  · exact key 8 (by omega) hZ
  · exact key 4 (by omega) hZ
  · exact key 2 (by omega) hZ
  · exact key 1 (by omega) hZ

theorem sgn_bd (n : Int) : -1 ≤ sgn n ∧ sgn n ≤ 1 := by
  unfold sgn; split
  · omega
  · split <;> omega

theorem agrees_sign (n d Z : Int) (w : World) (b c : Nat) (hx : Lie w b 0 [⟨1, n, d, ⟨#[]⟩⟩]) (hd : Den d) (hZ : n * (16 / d) = Z) (h1 : -99999999999 ≤ n) (h2 : n ≤ 99999999999)
    (z1 : -2 ^ 50 < Z) (z2 : Z < 2 ^ 50) :
    Calls Tryz.prog 4 #[.func (.func 5) #[] #[], .string ⟨#[83, 73, 71, 78]⟩, .slice (some ⟨b, 0, none⟩) 1 c] w (Gives w (.bool true)) := by
  have hsg := sgn_bd n
  have hs16 : f16 (16 * sgn Z) = f16 (16 * sgn n) := by rw [sgn_den hd hZ]
  refine agrees_ok 5 (fun args w => Tryz.call5 args w) (fun _ => ⟨1, f16 Z, ⟨#[]⟩⟩) ⟨1, f16 (16 * sgn Z), ⟨#[]⟩⟩ ⟨#[83, 73, 71, 78]⟩ [⟨1, n, d, ⟨#[]⟩⟩] ⟨1, sgn n, 1, ⟨#[]⟩⟩ b 0 c w hx
    (by simp) (by simp) (by simp) (by simp) (by simp) (by simp) ?_ ?_ ?_ ?_ ?_
  · exact fun w' hw => call_of _ _ _ _ ⟨1, sgn n, 1, ⟨#[]⟩⟩ w' fun w2 hw2 => callOver_sign ⟨1, n, d, ⟨#[]⟩⟩ b 0 c w2 (hx.ext (hw.tr hw2)) rfl h2 h1
  · intro x w' hm
    have e : x = ⟨1, n, d, ⟨#[]⟩⟩ := by simpa using hm
    subst e
    exact of_num n d Z w' hd hZ h1 h2
  · exact fun w' b' c' hl => impl_sign Z b' c' w' z1 z2 hl
  · intro w'
    rw [hs16]
    exact of_num (sgn n) 1 (16 * sgn n) w' (Or.inl rfl) (by simp; omega) (by omega) (by omega)
  · rw [hs16]
    exact (tame_f16 (by omega) (by omega)).self

theorem agrees_sign_no (w : World) (b c : Nat) (hx : Lie w b 0 [⟨6, 0, 0, ⟨#[]⟩⟩]) :
    Calls Tryz.prog 4 #[.func (.func 5) #[] #[], .string ⟨#[83, 73, 71, 78]⟩, .slice (some ⟨b, 0, none⟩) 1 c] w (Gives w (.bool true)) :=
  agrees_unsure_arg _ _ [⟨6, 0, 0, ⟨#[]⟩⟩] ⟨6, 0, 0, ⟨#[]⟩⟩ b 0 c w hx (by simp) (by simp) (by simp) (by simp)
    fun w' hw => call_of _ _ _ _ ⟨6, 0, 0, ⟨#[]⟩⟩ w' fun w2 hw2 => callOver_sign_no ⟨6, 0, 0, ⟨#[]⟩⟩ b 0 c w2 (hx.ext (hw.tr hw2)) rfl

theorem den_bound {n d Z : Int} (hd : Den d) (hZ : n * (16 / d) = Z) (h1 : -99999999999 ≤ n) (h2 : n ≤ 99999999999) : -2 ^ 50 < Z ∧ Z < 2 ^ 50 := by
  rcases hd with rfl | rfl | rfl | rfl | rfl
  · have : n * 16 = Z := hZ; omega
  · have : n * 8 = Z := hZ; omega
  · have : n * 4 = Z := hZ; omega
  · have : n * 2 = Z := hZ; omega
  · have : n * 1 = Z := hZ; omega

set_option maxHeartbeats 800000 in
theorem fnSignOf_ok (n : Int) (w : World) : Calls Tryz.prog 3 #[.int .i64 n] w (Gives w (.bool true)) := by
  go_enter Tryz.func3, Tryz.ntmps3
  go_wp2_with fail
  refine (argPart_ok n _).mono ?_
  rintro e w1 ⟨h, hb1⟩
  rcases h with ⟨n', d', rfl, hd, hZ, q1, q2⟩ | rfl
  · have hzb := den_bound hd hZ q1 q2
    have HD := Lib.hid hd; clear hd
    have HZ := Lib.hid hZ; clear hZ
    have HB := Lib.hid hzb; clear hzb
    go_wp2_with fail
    refine (agrees_sign n' d' _ _ w1.heap.size 1 (lie_one w1 ⟨1, n', d', ⟨#[]⟩⟩) HD.out HZ.out q1 q2 HB.out.1 HB.out.2).mono ?_
    rintro e w2 ⟨rfl, hb2⟩
    go_wp2
    go_ret
    exact ⟨rfl, (by repeat (first | with_reducible exact Below.refl _ _ | with_reducible assumption | ((with_reducible refine Below.setCell ?_ ?_ _); rotate_left; (simp; try omega)) | (with_reducible refine Ext.tr ?_ (by with_reducible assumption)) | (with_reducible refine Ext.al ?_ _) | (with_reducible refine below_drewN ?_ _) | (with_reducible refine Below.drew ?_)))⟩
  · go_wp2_with fail
    refine (agrees_sign_no _ w1.heap.size 1 (lie_one w1 ⟨6, 0, 0, ⟨#[]⟩⟩)).mono ?_
    rintro e w2 ⟨rfl, hb2⟩
    go_wp2
    go_ret
    exact ⟨rfl, (by repeat (first | with_reducible exact Below.refl _ _ | with_reducible assumption | ((with_reducible refine Below.setCell ?_ ?_ _); rotate_left; (simp; try omega)) | (with_reducible refine Ext.tr ?_ (by with_reducible assumption)) | (with_reducible refine Ext.al ?_ _) | (with_reducible refine below_drewN ?_ _) | (with_reducible refine Below.drew ?_)))⟩

theorem FnSignOf.law_of (n : Int) (w : World) (_ : -9223372036854775808 ≤ n ∧ n ≤ 9223372036854775807) :
    Calls Tryz.prog 3 #[.int .i64 n] w fun e w' => e = .returned (.bool true) ∧ Below w.heap.size w w' := fnSignOf_ok n w
end Go.Proofs.YtkhbljlnpgpaaaaGreatDoor
