/-
  Digits, Plain: what numeric asks of a number that a text is.
-/
import Derived.Test.YtnkhpkpcjijpeaaGreatDoorRd3
namespace Go.Proofs.YtnkhpkpcjijpeaaGreatDoor
set_option linter.unusedSimpArgs false
set_option linter.unusedVariables false
open Go Go.RowKit
set_option maxRecDepth 100000

theorem dig_size (r : Nat) : ((⟨#[48, 49, 50, 51, 52, 53, 54, 55, 56, 57, 65, 66, 67, 68, 69, 70, 71, 72, 73, 74, 75, 76, 77, 78, 79, 80, 81, 82, 83, 84, 85, 86, 87, 88, 89, 90]⟩ : ByteArray).extract r (r + 1)).size ≤ 1 := by
  rw [ByteArray.size_extract]; omega

set_option maxHeartbeats 800000 in
theorem digits_some : ∀ (k : Nat) (n : Nat), n < 10 ^ k → k ≤ 12 → 0 < k → ∃ t : ByteArray, t.size ≤ k ∧ ∀ w : World, Calls Tryz.prog 164 #[.int .i64 (n : Int), .int .i64 10] w (Gives w (.string t)) := by
  intro k
  induction k with
  | zero => intro n _ _ h; omega
  | succ k ih =>
    intro n hn hk _
    have hr0 : (0 : Int) ≤ (n : Int) % 10 := by omega
    have hr9 : (n : Int) % 10 ≤ 9 := by omega
    by_cases h10 : n < 10
    · refine ⟨_, Nat.le_trans (dig_size (n % 10)) (by omega), fun w => ?_⟩
      go_enter Tryz.func164, Tryz.ntmps164
      go_wp2_with fail
      go_quiet (fail)
      go_wp2
      go_ret
      exact ⟨rfl, (by repeat (first | with_reducible exact Below.refl _ _ | with_reducible assumption | ((with_reducible refine Below.setCell ?_ ?_ _); rotate_left; (simp; try omega)) | (with_reducible refine Ext.tr ?_ (by with_reducible assumption)) | (with_reducible refine Ext.al ?_ _) | (with_reducible refine below_drewN ?_ _) | (with_reducible refine Below.drew ?_)))⟩
    · have hk0 : 0 < k := by
        apply Classical.byContradiction; intro h0
        have : k = 0 := by omega
        subst this; simp at hn; omega
      have hdiv : n / 10 < 10 ^ k := by
        rw [Nat.div_lt_iff_lt_mul (by decide), ← Nat.pow_succ]; exact hn
      obtain ⟨t, ht, hR⟩ := ih (n / 10) hdiv (by omega) hk0
      rw [show ((n / 10 : Nat) : Int) = (n : Int) / 10 by simp] at hR
      have HR := Lib.hid hR
      clear hR
      have HNB := Lib.hid (show (n : Int) ≤ 1000000000000 by
        have : 10 ^ (k + 1) ≤ 10 ^ 12 := Nat.pow_le_pow_right (by decide) hk
        omega)
      clear ih hn hdiv hk0
      refine ⟨t ++ (⟨#[48, 49, 50, 51, 52, 53, 54, 55, 56, 57, 65, 66, 67, 68, 69, 70, 71, 72, 73, 74, 75, 76, 77, 78, 79, 80, 81, 82, 83, 84, 85, 86, 87, 88, 89, 90]⟩ : ByteArray).extract (n % 10) (n % 10 + 1), by rw [ByteArray.size_append]; exact Nat.add_le_add ht (dig_size (n % 10)), fun w => ?_⟩
      go_enter Tryz.func164, Tryz.ntmps164
      go_wp2_with fail
      go_quiet (fail)
      go_wp2_with (go_at_call 164; rw [IntWalk.wrap64_in _ (by have := HNB.out; omega)]; refine (HR.out _).mono ?_; rintro e w1 ⟨rfl, hb1⟩)
      go_ret
      exact ⟨rfl, (by repeat (first | with_reducible exact Below.refl _ _ | with_reducible assumption | ((with_reducible refine Below.setCell ?_ ?_ _); rotate_left; (simp; try omega)) | (with_reducible refine Ext.tr ?_ (by with_reducible assumption)) | (with_reducible refine Ext.al ?_ _) | (with_reducible refine below_drewN ?_ _) | (with_reducible refine Below.drew ?_)))⟩

set_option maxHeartbeats 800000 in
/-- Plain of a whole number: a text. -/
theorem plain_some (n : Int) (h1 : -99999999999 ≤ n) (h2 : n ≤ 99999999999) : ∃ t : ByteArray, ∀ w : World, Calls Tryz.prog 202 #[number n 1] w (Gives w (.string t)) := by
  by_cases hn : n < 0
  · obtain ⟨q, hq⟩ : ∃ q : Nat, -n = (q : Int) := ⟨(-n).toNat, by omega⟩
    obtain ⟨t, ht, hd⟩ := digits_some 12 q (by omega) (by decide) (by decide)
    rw [← hq] at hd
    have HD := Lib.hid hd; clear hd hq
    refine ⟨(⟨#[45]⟩ : ByteArray) ++ t, fun w => ?_⟩
    go_enter Tryz.func202, Tryz.ntmps202
    (go_wp2_with fail; refine (HD.out _).mono ?_; rintro e w1 ⟨rfl, hb1⟩; obtain ⟨hc1, hf1, hz1⟩ := ext_facts hb1; (try simp at hz1); (have hq1_0 : w.heap.size < w1.heap.size := by omega); (have hl1_0 : w.heap.size ≤ w1.heap.size := by omega); (have hr1_0 := fun o => hc1 (w.heap.size) o (by first | omega | (simp; done) | (simp; omega))); (have hs1_0 := fun o => hf1 (w.heap.size) o (by first | omega | (simp; done) | (simp; omega))); (try simp (disch := first | omega | (simp; omega)) only [World.cell?_alloc_past, World.cell?_drew] at hr1_0); (try simp (disch := first | omega | (simp; omega)) only [World.frozen?_alloc_past, World.frozen?_drew] at hs1_0); clear hc1 hf1)
    go_wp2
    go_ret
    exact ⟨rfl, (by repeat (first | with_reducible exact Below.refl _ _ | with_reducible assumption | ((with_reducible refine Below.setCell ?_ ?_ _); rotate_left; (simp; try omega)) | (with_reducible refine Ext.tr ?_ (by with_reducible assumption)) | (with_reducible refine Ext.al ?_ _) | (with_reducible refine below_drewN ?_ _) | (with_reducible refine Below.drew ?_)))⟩
  · obtain ⟨q, rfl⟩ : ∃ q : Nat, n = (q : Int) := ⟨n.toNat, by omega⟩
    obtain ⟨t, ht, hd⟩ := digits_some 12 q (by omega) (by decide) (by decide)
    have HD := Lib.hid hd; clear hd
    refine ⟨(⟨#[]⟩ : ByteArray) ++ t, fun w => ?_⟩
    go_enter Tryz.func202, Tryz.ntmps202
    (go_wp2_with fail; refine (HD.out _).mono ?_; rintro e w1 ⟨rfl, hb1⟩; obtain ⟨hc1, hf1, hz1⟩ := ext_facts hb1; (try simp at hz1); (have hq1_0 : w.heap.size < w1.heap.size := by omega); (have hl1_0 : w.heap.size ≤ w1.heap.size := by omega); (have hr1_0 := fun o => hc1 (w.heap.size) o (by first | omega | (simp; done) | (simp; omega))); (have hs1_0 := fun o => hf1 (w.heap.size) o (by first | omega | (simp; done) | (simp; omega))); (try simp (disch := first | omega | (simp; omega)) only [World.cell?_alloc_past, World.cell?_drew] at hr1_0); (try simp (disch := first | omega | (simp; omega)) only [World.frozen?_alloc_past, World.frozen?_drew] at hs1_0); clear hc1 hf1)
    go_wp2
    go_ret
    exact ⟨rfl, (by repeat (first | with_reducible exact Below.refl _ _ | with_reducible assumption | ((with_reducible refine Below.setCell ?_ ?_ _); rotate_left; (simp; try omega)) | (with_reducible refine Ext.tr ?_ (by with_reducible assumption)) | (with_reducible refine Ext.al ?_ _) | (with_reducible refine below_drewN ?_ _) | (with_reducible refine Below.drew ?_)))⟩
end Go.Proofs.YtnkhpkpcjijpeaaGreatDoor
