/-
  Read of a text: a number, an error, or nothing is said.
-/
import Derived.Test.YtlbhebmjdaaglaaGreatDoorRd3
namespace Go.Proofs.YtlbhebmjdaaglaaGreatDoor
set_option linter.unusedSimpArgs false
set_option linter.unusedVariables false
open Go Go.RowKit
set_option maxRecDepth 100000

theorem otherSc_word (s : ByteArray) : NumD (otherSc s) ∨ (otherSc s = ⟨4, 0, 0, valueT⟩ ∧ wordT s = true) := by
  unfold otherSc
  by_cases h : wordT s = true
  · rw [if_pos h]; exact Or.inr ⟨rfl, h⟩
  · rw [if_neg h]; exact Or.inl (Or.inl rfl)

set_option maxHeartbeats 6400000 in
theorem read_plus (s : ByteArray) (w : World) (hs : s.size ≤ 1000000000) (h0 : 0 < s.size) (h45 : (((s[0]'h0).toNat : Int) == 45) = false) :
    Calls Tryz.prog 6 #[.string s] w fun e w' => ∃ x : Sc, e = .returned x.val ∧ (NumD x ∨ (x = ⟨4, 0, 0, valueT⟩ ∧ wordT s = true)) ∧ Ext w w' := by
  have HO := Lib.hid (fun w' => other_ok s w' hs)
  go_enter Tryz.func6, Tryz.ntmps6
  go_wp2
  clear h45
  go_loop [3, 5, 6, 7, 8] (fun a nn mm dd pp => ∃ (k m N D : Nat) (p : Bool), k ≤ s.size ∧ a = .int .i64 k ∧ nn = .int .i64 N ∧ N < 10 ^ m ∧ m ≤ 12 ∧ mm = .int .i64 m ∧ dd = .int .i64 D ∧ 1 ≤ D ∧ D ≤ 10 ^ m ∧ pp = .bool p) (fun a _ _ _ _ => s.size - (intOf a).toNat)
  case atStart => exact ⟨0, 0, 0, 1, false, by omega, rfl, rfl, by decide, by decide, rfl, rfl, by decide, by decide, rfl⟩
  case round =>
    obtain ⟨k, m, N, D, p, hk, rfl, rfl, hN, hm, rfl, rfl, hD1, hD2, rfl⟩ := hrel
    have hp12 : 10 ^ m ≤ 10 ^ 12 := Nat.pow_le_pow_right (by decide) hm
    have hps := Lib.hid (show 10 ^ (m + 1) = 10 * 10 ^ m by rw [Nat.pow_succ]; omega)
    by_cases hlt : k < s.size
    · obtain ⟨c, hc⟩ : ∃ c : Int, ((s[k]'hlt).toNat : Int) = c := ⟨_, rfl⟩
      have hc0 : 0 ≤ c := by omega
      have hc1 : c < 256 := by have := (s[k]'hlt).toNat_lt; omega
      by_cases hdig : 48 ≤ c ∧ c ≤ 57 ∧ m < 12
      · obtain ⟨g1, g2, g3⟩ := hdig
        cases p
        · go_wp2
          go_round
          case rel => exact ⟨k + 1, m + 1, 10 * N + (c - 48).toNat, D, false, by omega, by go_num, congrArg (Value.int .i64) (by omega), by have := hps.out; omega, by omega, by go_num, rfl, hD1, by have := hps.out; omega, rfl⟩
          case measure => simp [intOf]; omega
        · go_wp2
          go_round
          case rel => exact ⟨k + 1, m + 1, 10 * N + (c - 48).toNat, D * 10, true, by omega, by go_num, congrArg (Value.int .i64) (by omega), by have := hps.out; omega, by omega, by go_num, congrArg (Value.int .i64) (by omega), by omega, by have := hps.out; omega, rfl⟩
          case measure => simp [intOf]; omega
      · have h3 : c < 48 ∨ (48 ≤ c ∧ 57 < c) ∨ (48 ≤ c ∧ c ≤ 57 ∧ ¬ m < 12) := by omega
        clear hdig
        rcases h3 with g1 | ⟨g1, g2⟩ | ⟨g1, g2, g3⟩
        · by_cases hdot : c = 46
          · subst hdot
            cases p
            · by_cases hm0 : m = 0
              · subst hm0
                go_wp2_with fail
                (go_wp2_with fail; refine (HO.out _).mono ?_; rintro e w1 ⟨rfl, hb1⟩; obtain ⟨hc1, hf1, hz1⟩ := ext_facts hb1; (try simp at hz1); (have hq1_0 : w.heap.size < w1.heap.size := by omega); (have hl1_0 : w.heap.size ≤ w1.heap.size := by omega); (have hr1_0 := fun o => hc1 (w.heap.size) o (by first | omega | (simp; done) | (simp; omega))); (have hs1_0 := fun o => hf1 (w.heap.size) o (by first | omega | (simp; done) | (simp; omega))); (try simp (disch := first | omega | (simp; omega)) only [World.cell?_alloc_past, World.cell?_drew] at hr1_0); (try simp (disch := first | omega | (simp; omega)) only [World.frozen?_alloc_past, World.frozen?_drew] at hs1_0); clear hc1 hf1)
                go_wp2
                exact bodyPost_ret (v := (otherSc s).val) (by simp [results, Tryz.results6, go_sem, *]) rfl ⟨otherSc s, rfl, otherSc_word s, (by repeat (first | with_reducible exact Below.refl _ _ | with_reducible assumption | ((with_reducible refine Below.setCell ?_ ?_ _); rotate_left; (simp; try omega)) | (with_reducible refine Ext.tr ?_ (by with_reducible assumption)) | (with_reducible refine Ext.al ?_ _) | (with_reducible refine below_drewN ?_ _) | (with_reducible refine Below.drew ?_)))⟩
              · have hm1 : 0 < m := by omega
                by_cases hk1 : k + 1 < s.size
                · go_wp2
                  go_round
                  case rel => exact ⟨k + 1, m, N, D, true, by omega, by go_num, rfl, hN, hm, rfl, rfl, hD1, hD2, rfl⟩
                  case measure => simp [intOf]; omega
                · go_wp2_with fail
                  (go_wp2_with fail; refine (HO.out _).mono ?_; rintro e w1 ⟨rfl, hb1⟩; obtain ⟨hc1, hf1, hz1⟩ := ext_facts hb1; (try simp at hz1); (have hq1_0 : w.heap.size < w1.heap.size := by omega); (have hl1_0 : w.heap.size ≤ w1.heap.size := by omega); (have hr1_0 := fun o => hc1 (w.heap.size) o (by first | omega | (simp; done) | (simp; omega))); (have hs1_0 := fun o => hf1 (w.heap.size) o (by first | omega | (simp; done) | (simp; omega))); (try simp (disch := first | omega | (simp; omega)) only [World.cell?_alloc_past, World.cell?_drew] at hr1_0); (try simp (disch := first | omega | (simp; omega)) only [World.frozen?_alloc_past, World.frozen?_drew] at hs1_0); clear hc1 hf1)
                  go_wp2
                  exact bodyPost_ret (v := (otherSc s).val) (by simp [results, Tryz.results6, go_sem, *]) rfl ⟨otherSc s, rfl, otherSc_word s, (by repeat (first | with_reducible exact Below.refl _ _ | with_reducible assumption | ((with_reducible refine Below.setCell ?_ ?_ _); rotate_left; (simp; try omega)) | (with_reducible refine Ext.tr ?_ (by with_reducible assumption)) | (with_reducible refine Ext.al ?_ _) | (with_reducible refine below_drewN ?_ _) | (with_reducible refine Below.drew ?_)))⟩
            · go_wp2_with fail
              (go_wp2_with fail; refine (HO.out _).mono ?_; rintro e w1 ⟨rfl, hb1⟩; obtain ⟨hc1, hf1, hz1⟩ := ext_facts hb1; (try simp at hz1); (have hq1_0 : w.heap.size < w1.heap.size := by omega); (have hl1_0 : w.heap.size ≤ w1.heap.size := by omega); (have hr1_0 := fun o => hc1 (w.heap.size) o (by first | omega | (simp; done) | (simp; omega))); (have hs1_0 := fun o => hf1 (w.heap.size) o (by first | omega | (simp; done) | (simp; omega))); (try simp (disch := first | omega | (simp; omega)) only [World.cell?_alloc_past, World.cell?_drew] at hr1_0); (try simp (disch := first | omega | (simp; omega)) only [World.frozen?_alloc_past, World.frozen?_drew] at hs1_0); clear hc1 hf1)
              go_wp2
              exact bodyPost_ret (v := (otherSc s).val) (by simp [results, Tryz.results6, go_sem, *]) rfl ⟨otherSc s, rfl, otherSc_word s, (by repeat (first | with_reducible exact Below.refl _ _ | with_reducible assumption | ((with_reducible refine Below.setCell ?_ ?_ _); rotate_left; (simp; try omega)) | (with_reducible refine Ext.tr ?_ (by with_reducible assumption)) | (with_reducible refine Ext.al ?_ _) | (with_reducible refine below_drewN ?_ _) | (with_reducible refine Below.drew ?_)))⟩
          · have hb : (c == 46) = false := by rw [beq_eq_false_iff_ne]; exact hdot
            go_wp2_with fail
            (go_wp2_with fail; refine (HO.out _).mono ?_; rintro e w1 ⟨rfl, hb1⟩; obtain ⟨hc1, hf1, hz1⟩ := ext_facts hb1; (try simp at hz1); (have hq1_0 : w.heap.size < w1.heap.size := by omega); (have hl1_0 : w.heap.size ≤ w1.heap.size := by omega); (have hr1_0 := fun o => hc1 (w.heap.size) o (by first | omega | (simp; done) | (simp; omega))); (have hs1_0 := fun o => hf1 (w.heap.size) o (by first | omega | (simp; done) | (simp; omega))); (try simp (disch := first | omega | (simp; omega)) only [World.cell?_alloc_past, World.cell?_drew] at hr1_0); (try simp (disch := first | omega | (simp; omega)) only [World.frozen?_alloc_past, World.frozen?_drew] at hs1_0); clear hc1 hf1)
            go_wp2
            exact bodyPost_ret (v := (otherSc s).val) (by simp [results, Tryz.results6, go_sem, *]) rfl ⟨otherSc s, rfl, otherSc_word s, (by repeat (first | with_reducible exact Below.refl _ _ | with_reducible assumption | ((with_reducible refine Below.setCell ?_ ?_ _); rotate_left; (simp; try omega)) | (with_reducible refine Ext.tr ?_ (by with_reducible assumption)) | (with_reducible refine Ext.al ?_ _) | (with_reducible refine below_drewN ?_ _) | (with_reducible refine Below.drew ?_)))⟩
        · have hb : (c == 46) = false := by rw [beq_eq_false_iff_ne]; omega
          go_wp2_with fail
          (go_wp2_with fail; refine (HO.out _).mono ?_; rintro e w1 ⟨rfl, hb1⟩; obtain ⟨hc1, hf1, hz1⟩ := ext_facts hb1; (try simp at hz1); (have hq1_0 : w.heap.size < w1.heap.size := by omega); (have hl1_0 : w.heap.size ≤ w1.heap.size := by omega); (have hr1_0 := fun o => hc1 (w.heap.size) o (by first | omega | (simp; done) | (simp; omega))); (have hs1_0 := fun o => hf1 (w.heap.size) o (by first | omega | (simp; done) | (simp; omega))); (try simp (disch := first | omega | (simp; omega)) only [World.cell?_alloc_past, World.cell?_drew] at hr1_0); (try simp (disch := first | omega | (simp; omega)) only [World.frozen?_alloc_past, World.frozen?_drew] at hs1_0); clear hc1 hf1)
          go_wp2
          exact bodyPost_ret (v := (otherSc s).val) (by simp [results, Tryz.results6, go_sem, *]) rfl ⟨otherSc s, rfl, otherSc_word s, (by repeat (first | with_reducible exact Below.refl _ _ | with_reducible assumption | ((with_reducible refine Below.setCell ?_ ?_ _); rotate_left; (simp; try omega)) | (with_reducible refine Ext.tr ?_ (by with_reducible assumption)) | (with_reducible refine Ext.al ?_ _) | (with_reducible refine below_drewN ?_ _) | (with_reducible refine Below.drew ?_)))⟩
        · have hb : (c == 46) = false := by rw [beq_eq_false_iff_ne]; omega
          go_wp2_with fail
          (go_wp2_with fail; refine (HO.out _).mono ?_; rintro e w1 ⟨rfl, hb1⟩; obtain ⟨hc1, hf1, hz1⟩ := ext_facts hb1; (try simp at hz1); (have hq1_0 : w.heap.size < w1.heap.size := by omega); (have hl1_0 : w.heap.size ≤ w1.heap.size := by omega); (have hr1_0 := fun o => hc1 (w.heap.size) o (by first | omega | (simp; done) | (simp; omega))); (have hs1_0 := fun o => hf1 (w.heap.size) o (by first | omega | (simp; done) | (simp; omega))); (try simp (disch := first | omega | (simp; omega)) only [World.cell?_alloc_past, World.cell?_drew] at hr1_0); (try simp (disch := first | omega | (simp; omega)) only [World.frozen?_alloc_past, World.frozen?_drew] at hs1_0); clear hc1 hf1)
          go_wp2
          exact bodyPost_ret (v := (otherSc s).val) (by simp [results, Tryz.results6, go_sem, *]) rfl ⟨otherSc s, rfl, otherSc_word s, (by repeat (first | with_reducible exact Below.refl _ _ | with_reducible assumption | ((with_reducible refine Below.setCell ?_ ?_ _); rotate_left; (simp; try omega)) | (with_reducible refine Ext.tr ?_ (by with_reducible assumption)) | (with_reducible refine Ext.al ?_ _) | (with_reducible refine below_drewN ?_ _) | (with_reducible refine Below.drew ?_)))⟩
    · by_cases hm0 : m = 0
      · subst hm0
        go_wp2_with fail
        (go_wp2_with fail; refine (HO.out _).mono ?_; rintro e w1 ⟨rfl, hb1⟩; obtain ⟨hc1, hf1, hz1⟩ := ext_facts hb1; (try simp at hz1); (have hq1_0 : w.heap.size < w1.heap.size := by omega); (have hl1_0 : w.heap.size ≤ w1.heap.size := by omega); (have hr1_0 := fun o => hc1 (w.heap.size) o (by first | omega | (simp; done) | (simp; omega))); (have hs1_0 := fun o => hf1 (w.heap.size) o (by first | omega | (simp; done) | (simp; omega))); (try simp (disch := first | omega | (simp; omega)) only [World.cell?_alloc_past, World.cell?_drew] at hr1_0); (try simp (disch := first | omega | (simp; omega)) only [World.frozen?_alloc_past, World.frozen?_drew] at hs1_0); clear hc1 hf1)
        go_wp2
        exact bodyPost_ret (v := (otherSc s).val) (by simp [results, Tryz.results6, go_sem, *]) rfl ⟨otherSc s, rfl, otherSc_word s, (by repeat (first | with_reducible exact Below.refl _ _ | with_reducible assumption | ((with_reducible refine Below.setCell ?_ ?_ _); rotate_left; (simp; try omega)) | (with_reducible refine Ext.tr ?_ (by with_reducible assumption)) | (with_reducible refine Ext.al ?_ _) | (with_reducible refine below_drewN ?_ _) | (with_reducible refine Below.drew ?_)))⟩
      · have hmz : ((m : Int) == 0) = false := by rw [beq_eq_false_iff_ne]; omega
        by_cases hD3 : (100000 : Int) < D
        · go_wp2_with fail
          (go_wp2_with fail; refine (HO.out _).mono ?_; rintro e w1 ⟨rfl, hb1⟩; obtain ⟨hc1, hf1, hz1⟩ := ext_facts hb1; (try simp at hz1); (have hq1_0 : w.heap.size < w1.heap.size := by omega); (have hl1_0 : w.heap.size ≤ w1.heap.size := by omega); (have hr1_0 := fun o => hc1 (w.heap.size) o (by first | omega | (simp; done) | (simp; omega))); (have hs1_0 := fun o => hf1 (w.heap.size) o (by first | omega | (simp; done) | (simp; omega))); (try simp (disch := first | omega | (simp; omega)) only [World.cell?_alloc_past, World.cell?_drew] at hr1_0); (try simp (disch := first | omega | (simp; omega)) only [World.frozen?_alloc_past, World.frozen?_drew] at hs1_0); clear hc1 hf1)
          go_wp2
          exact bodyPost_ret (v := (otherSc s).val) (by simp [results, Tryz.results6, go_sem, *]) rfl ⟨otherSc s, rfl, otherSc_word s, (by repeat (first | with_reducible exact Below.refl _ _ | with_reducible assumption | ((with_reducible refine Below.setCell ?_ ?_ _); rotate_left; (simp; try omega)) | (with_reducible refine Ext.tr ?_ (by with_reducible assumption)) | (with_reducible refine Ext.al ?_ _) | (with_reducible refine below_drewN ?_ _) | (with_reducible refine Below.drew ?_)))⟩
        · go_wp2_with fail
          refine (frac_any (N : Int) D _ (by omega) (by omega) (by omega) (by omega)).mono ?_
          rintro e w1 ⟨x, rfl, hx, hb1⟩
          (obtain ⟨hc1, hf1, hz1⟩ := ext_facts hb1; (try simp at hz1); (have hq1_0 : w.heap.size < w1.heap.size := by omega); (have hl1_0 : w.heap.size ≤ w1.heap.size := by omega); (have hr1_0 := fun o => hc1 (w.heap.size) o (by first | omega | (simp; done) | (simp; omega))); (have hs1_0 := fun o => hf1 (w.heap.size) o (by first | omega | (simp; done) | (simp; omega))); (try simp (disch := first | omega | (simp; omega)) only [World.cell?_alloc_past, World.cell?_drew] at hr1_0); (try simp (disch := first | omega | (simp; omega)) only [World.frozen?_alloc_past, World.frozen?_drew] at hs1_0); clear hc1 hf1)
          go_wp2
          exact bodyPost_ret (v := x.val) (by simp [results, Tryz.results6, go_sem, *]) rfl ⟨x, rfl, Or.inl hx, (by repeat (first | with_reducible exact Below.refl _ _ | with_reducible assumption | ((with_reducible refine Below.setCell ?_ ?_ _); rotate_left; (simp; try omega)) | (with_reducible refine Ext.tr ?_ (by with_reducible assumption)) | (with_reducible refine Ext.al ?_ _) | (with_reducible refine below_drewN ?_ _) | (with_reducible refine Below.drew ?_)))⟩

set_option maxHeartbeats 6400000 in
theorem read_minus (s : ByteArray) (w : World) (hs : s.size ≤ 1000000000) (h0 : 0 < s.size) (h45 : (((s[0]'h0).toNat : Int) == 45) = true) :
    Calls Tryz.prog 6 #[.string s] w fun e w' => ∃ x : Sc, e = .returned x.val ∧ (NumD x ∨ (x = ⟨4, 0, 0, valueT⟩ ∧ wordT s = true)) ∧ Ext w w' := by
  have HO := Lib.hid (fun w' => other_ok s w' hs)
  go_enter Tryz.func6, Tryz.ntmps6
  go_wp2
  clear h45
  go_loop [3, 5, 6, 7, 8] (fun a nn mm dd pp => ∃ (k m N D : Nat) (p : Bool), k ≤ s.size ∧ a = .int .i64 k ∧ nn = .int .i64 N ∧ N < 10 ^ m ∧ m ≤ 12 ∧ mm = .int .i64 m ∧ dd = .int .i64 D ∧ 1 ≤ D ∧ D ≤ 10 ^ m ∧ pp = .bool p) (fun a _ _ _ _ => s.size - (intOf a).toNat)
  case atStart => exact ⟨1, 0, 0, 1, false, by omega, rfl, rfl, by decide, by decide, rfl, rfl, by decide, by decide, rfl⟩
  case round =>
    obtain ⟨k, m, N, D, p, hk, rfl, rfl, hN, hm, rfl, rfl, hD1, hD2, rfl⟩ := hrel
    have hp12 : 10 ^ m ≤ 10 ^ 12 := Nat.pow_le_pow_right (by decide) hm
    have hps := Lib.hid (show 10 ^ (m + 1) = 10 * 10 ^ m by rw [Nat.pow_succ]; omega)
    by_cases hlt : k < s.size
    · obtain ⟨c, hc⟩ : ∃ c : Int, ((s[k]'hlt).toNat : Int) = c := ⟨_, rfl⟩
      have hc0 : 0 ≤ c := by omega
      have hc1 : c < 256 := by have := (s[k]'hlt).toNat_lt; omega
      by_cases hdig : 48 ≤ c ∧ c ≤ 57 ∧ m < 12
      · obtain ⟨g1, g2, g3⟩ := hdig
        cases p
        · go_wp2
          go_round
          case rel => exact ⟨k + 1, m + 1, 10 * N + (c - 48).toNat, D, false, by omega, by go_num, congrArg (Value.int .i64) (by omega), by have := hps.out; omega, by omega, by go_num, rfl, hD1, by have := hps.out; omega, rfl⟩
          case measure => simp [intOf]; omega
        · go_wp2
          go_round
          case rel => exact ⟨k + 1, m + 1, 10 * N + (c - 48).toNat, D * 10, true, by omega, by go_num, congrArg (Value.int .i64) (by omega), by have := hps.out; omega, by omega, by go_num, congrArg (Value.int .i64) (by omega), by omega, by have := hps.out; omega, rfl⟩
          case measure => simp [intOf]; omega
      · have h3 : c < 48 ∨ (48 ≤ c ∧ 57 < c) ∨ (48 ≤ c ∧ c ≤ 57 ∧ ¬ m < 12) := by omega
        clear hdig
        rcases h3 with g1 | ⟨g1, g2⟩ | ⟨g1, g2, g3⟩
        · by_cases hdot : c = 46
          · subst hdot
            cases p
            · by_cases hm0 : m = 0
              · subst hm0
                go_wp2_with fail
                (go_wp2_with fail; refine (HO.out _).mono ?_; rintro e w1 ⟨rfl, hb1⟩; obtain ⟨hc1, hf1, hz1⟩ := ext_facts hb1; (try simp at hz1); (have hq1_0 : w.heap.size < w1.heap.size := by omega); (have hl1_0 : w.heap.size ≤ w1.heap.size := by omega); (have hr1_0 := fun o => hc1 (w.heap.size) o (by first | omega | (simp; done) | (simp; omega))); (have hs1_0 := fun o => hf1 (w.heap.size) o (by first | omega | (simp; done) | (simp; omega))); (try simp (disch := first | omega | (simp; omega)) only [World.cell?_alloc_past, World.cell?_drew] at hr1_0); (try simp (disch := first | omega | (simp; omega)) only [World.frozen?_alloc_past, World.frozen?_drew] at hs1_0); clear hc1 hf1)
                go_wp2
                exact bodyPost_ret (v := (otherSc s).val) (by simp [results, Tryz.results6, go_sem, *]) rfl ⟨otherSc s, rfl, otherSc_word s, (by repeat (first | with_reducible exact Below.refl _ _ | with_reducible assumption | ((with_reducible refine Below.setCell ?_ ?_ _); rotate_left; (simp; try omega)) | (with_reducible refine Ext.tr ?_ (by with_reducible assumption)) | (with_reducible refine Ext.al ?_ _) | (with_reducible refine below_drewN ?_ _) | (with_reducible refine Below.drew ?_)))⟩
              · have hm1 : 0 < m := by omega
                by_cases hk1 : k + 1 < s.size
                · go_wp2
                  go_round
                  case rel => exact ⟨k + 1, m, N, D, true, by omega, by go_num, rfl, hN, hm, rfl, rfl, hD1, hD2, rfl⟩
                  case measure => simp [intOf]; omega
                · go_wp2_with fail
                  (go_wp2_with fail; refine (HO.out _).mono ?_; rintro e w1 ⟨rfl, hb1⟩; obtain ⟨hc1, hf1, hz1⟩ := ext_facts hb1; (try simp at hz1); (have hq1_0 : w.heap.size < w1.heap.size := by omega); (have hl1_0 : w.heap.size ≤ w1.heap.size := by omega); (have hr1_0 := fun o => hc1 (w.heap.size) o (by first | omega | (simp; done) | (simp; omega))); (have hs1_0 := fun o => hf1 (w.heap.size) o (by first | omega | (simp; done) | (simp; omega))); (try simp (disch := first | omega | (simp; omega)) only [World.cell?_alloc_past, World.cell?_drew] at hr1_0); (try simp (disch := first | omega | (simp; omega)) only [World.frozen?_alloc_past, World.frozen?_drew] at hs1_0); clear hc1 hf1)
                  go_wp2
                  exact bodyPost_ret (v := (otherSc s).val) (by simp [results, Tryz.results6, go_sem, *]) rfl ⟨otherSc s, rfl, otherSc_word s, (by repeat (first | with_reducible exact Below.refl _ _ | with_reducible assumption | ((with_reducible refine Below.setCell ?_ ?_ _); rotate_left; (simp; try omega)) | (with_reducible refine Ext.tr ?_ (by with_reducible assumption)) | (with_reducible refine Ext.al ?_ _) | (with_reducible refine below_drewN ?_ _) | (with_reducible refine Below.drew ?_)))⟩
            · go_wp2_with fail
              (go_wp2_with fail; refine (HO.out _).mono ?_; rintro e w1 ⟨rfl, hb1⟩; obtain ⟨hc1, hf1, hz1⟩ := ext_facts hb1; (try simp at hz1); (have hq1_0 : w.heap.size < w1.heap.size := by omega); (have hl1_0 : w.heap.size ≤ w1.heap.size := by omega); (have hr1_0 := fun o => hc1 (w.heap.size) o (by first | omega | (simp; done) | (simp; omega))); (have hs1_0 := fun o => hf1 (w.heap.size) o (by first | omega | (simp; done) | (simp; omega))); (try simp (disch := first | omega | (simp; omega)) only [World.cell?_alloc_past, World.cell?_drew] at hr1_0); (try simp (disch := first | omega | (simp; omega)) only [World.frozen?_alloc_past, World.frozen?_drew] at hs1_0); clear hc1 hf1)
              go_wp2
              exact bodyPost_ret (v := (otherSc s).val) (by simp [results, Tryz.results6, go_sem, *]) rfl ⟨otherSc s, rfl, otherSc_word s, (by repeat (first | with_reducible exact Below.refl _ _ | with_reducible assumption | ((with_reducible refine Below.setCell ?_ ?_ _); rotate_left; (simp; try omega)) | (with_reducible refine Ext.tr ?_ (by with_reducible assumption)) | (with_reducible refine Ext.al ?_ _) | (with_reducible refine below_drewN ?_ _) | (with_reducible refine Below.drew ?_)))⟩
          · have hb : (c == 46) = false := by rw [beq_eq_false_iff_ne]; exact hdot
            go_wp2_with fail
            (go_wp2_with fail; refine (HO.out _).mono ?_; rintro e w1 ⟨rfl, hb1⟩; obtain ⟨hc1, hf1, hz1⟩ := ext_facts hb1; (try simp at hz1); (have hq1_0 : w.heap.size < w1.heap.size := by omega); (have hl1_0 : w.heap.size ≤ w1.heap.size := by omega); (have hr1_0 := fun o => hc1 (w.heap.size) o (by first | omega | (simp; done) | (simp; omega))); (have hs1_0 := fun o => hf1 (w.heap.size) o (by first | omega | (simp; done) | (simp; omega))); (try simp (disch := first | omega | (simp; omega)) only [World.cell?_alloc_past, World.cell?_drew] at hr1_0); (try simp (disch := first | omega | (simp; omega)) only [World.frozen?_alloc_past, World.frozen?_drew] at hs1_0); clear hc1 hf1)
            go_wp2
            exact bodyPost_ret (v := (otherSc s).val) (by simp [results, Tryz.results6, go_sem, *]) rfl ⟨otherSc s, rfl, otherSc_word s, (by repeat (first | with_reducible exact Below.refl _ _ | with_reducible assumption | ((with_reducible refine Below.setCell ?_ ?_ _); rotate_left; (simp; try omega)) | (with_reducible refine Ext.tr ?_ (by with_reducible assumption)) | (with_reducible refine Ext.al ?_ _) | (with_reducible refine below_drewN ?_ _) | (with_reducible refine Below.drew ?_)))⟩
        · have hb : (c == 46) = false := by rw [beq_eq_false_iff_ne]; omega
          go_wp2_with fail
          (go_wp2_with fail; refine (HO.out _).mono ?_; rintro e w1 ⟨rfl, hb1⟩; obtain ⟨hc1, hf1, hz1⟩ := ext_facts hb1; (try simp at hz1); (have hq1_0 : w.heap.size < w1.heap.size := by omega); (have hl1_0 : w.heap.size ≤ w1.heap.size := by omega); (have hr1_0 := fun o => hc1 (w.heap.size) o (by first | omega | (simp; done) | (simp; omega))); (have hs1_0 := fun o => hf1 (w.heap.size) o (by first | omega | (simp; done) | (simp; omega))); (try simp (disch := first | omega | (simp; omega)) only [World.cell?_alloc_past, World.cell?_drew] at hr1_0); (try simp (disch := first | omega | (simp; omega)) only [World.frozen?_alloc_past, World.frozen?_drew] at hs1_0); clear hc1 hf1)
          go_wp2
          exact bodyPost_ret (v := (otherSc s).val) (by simp [results, Tryz.results6, go_sem, *]) rfl ⟨otherSc s, rfl, otherSc_word s, (by repeat (first | with_reducible exact Below.refl _ _ | with_reducible assumption | ((with_reducible refine Below.setCell ?_ ?_ _); rotate_left; (simp; try omega)) | (with_reducible refine Ext.tr ?_ (by with_reducible assumption)) | (with_reducible refine Ext.al ?_ _) | (with_reducible refine below_drewN ?_ _) | (with_reducible refine Below.drew ?_)))⟩
        · have hb : (c == 46) = false := by rw [beq_eq_false_iff_ne]; omega
          go_wp2_with fail
          (go_wp2_with fail; refine (HO.out _).mono ?_; rintro e w1 ⟨rfl, hb1⟩; obtain ⟨hc1, hf1, hz1⟩ := ext_facts hb1; (try simp at hz1); (have hq1_0 : w.heap.size < w1.heap.size := by omega); (have hl1_0 : w.heap.size ≤ w1.heap.size := by omega); (have hr1_0 := fun o => hc1 (w.heap.size) o (by first | omega | (simp; done) | (simp; omega))); (have hs1_0 := fun o => hf1 (w.heap.size) o (by first | omega | (simp; done) | (simp; omega))); (try simp (disch := first | omega | (simp; omega)) only [World.cell?_alloc_past, World.cell?_drew] at hr1_0); (try simp (disch := first | omega | (simp; omega)) only [World.frozen?_alloc_past, World.frozen?_drew] at hs1_0); clear hc1 hf1)
          go_wp2
          exact bodyPost_ret (v := (otherSc s).val) (by simp [results, Tryz.results6, go_sem, *]) rfl ⟨otherSc s, rfl, otherSc_word s, (by repeat (first | with_reducible exact Below.refl _ _ | with_reducible assumption | ((with_reducible refine Below.setCell ?_ ?_ _); rotate_left; (simp; try omega)) | (with_reducible refine Ext.tr ?_ (by with_reducible assumption)) | (with_reducible refine Ext.al ?_ _) | (with_reducible refine below_drewN ?_ _) | (with_reducible refine Below.drew ?_)))⟩
    · by_cases hm0 : m = 0
      · subst hm0
        go_wp2_with fail
        (go_wp2_with fail; refine (HO.out _).mono ?_; rintro e w1 ⟨rfl, hb1⟩; obtain ⟨hc1, hf1, hz1⟩ := ext_facts hb1; (try simp at hz1); (have hq1_0 : w.heap.size < w1.heap.size := by omega); (have hl1_0 : w.heap.size ≤ w1.heap.size := by omega); (have hr1_0 := fun o => hc1 (w.heap.size) o (by first | omega | (simp; done) | (simp; omega))); (have hs1_0 := fun o => hf1 (w.heap.size) o (by first | omega | (simp; done) | (simp; omega))); (try simp (disch := first | omega | (simp; omega)) only [World.cell?_alloc_past, World.cell?_drew] at hr1_0); (try simp (disch := first | omega | (simp; omega)) only [World.frozen?_alloc_past, World.frozen?_drew] at hs1_0); clear hc1 hf1)
        go_wp2
        exact bodyPost_ret (v := (otherSc s).val) (by simp [results, Tryz.results6, go_sem, *]) rfl ⟨otherSc s, rfl, otherSc_word s, (by repeat (first | with_reducible exact Below.refl _ _ | with_reducible assumption | ((with_reducible refine Below.setCell ?_ ?_ _); rotate_left; (simp; try omega)) | (with_reducible refine Ext.tr ?_ (by with_reducible assumption)) | (with_reducible refine Ext.al ?_ _) | (with_reducible refine below_drewN ?_ _) | (with_reducible refine Below.drew ?_)))⟩
      · have hmz : ((m : Int) == 0) = false := by rw [beq_eq_false_iff_ne]; omega
        by_cases hD3 : (100000 : Int) < D
        · go_wp2_with fail
          (go_wp2_with fail; refine (HO.out _).mono ?_; rintro e w1 ⟨rfl, hb1⟩; obtain ⟨hc1, hf1, hz1⟩ := ext_facts hb1; (try simp at hz1); (have hq1_0 : w.heap.size < w1.heap.size := by omega); (have hl1_0 : w.heap.size ≤ w1.heap.size := by omega); (have hr1_0 := fun o => hc1 (w.heap.size) o (by first | omega | (simp; done) | (simp; omega))); (have hs1_0 := fun o => hf1 (w.heap.size) o (by first | omega | (simp; done) | (simp; omega))); (try simp (disch := first | omega | (simp; omega)) only [World.cell?_alloc_past, World.cell?_drew] at hr1_0); (try simp (disch := first | omega | (simp; omega)) only [World.frozen?_alloc_past, World.frozen?_drew] at hs1_0); clear hc1 hf1)
          go_wp2
          exact bodyPost_ret (v := (otherSc s).val) (by simp [results, Tryz.results6, go_sem, *]) rfl ⟨otherSc s, rfl, otherSc_word s, (by repeat (first | with_reducible exact Below.refl _ _ | with_reducible assumption | ((with_reducible refine Below.setCell ?_ ?_ _); rotate_left; (simp; try omega)) | (with_reducible refine Ext.tr ?_ (by with_reducible assumption)) | (with_reducible refine Ext.al ?_ _) | (with_reducible refine below_drewN ?_ _) | (with_reducible refine Below.drew ?_)))⟩
        · go_wp2_with fail
          refine (frac_any (-(N : Int)) D _ (by omega) (by omega) (by omega) (by omega)).mono ?_
          rintro e w1 ⟨x, rfl, hx, hb1⟩
          (obtain ⟨hc1, hf1, hz1⟩ := ext_facts hb1; (try simp at hz1); (have hq1_0 : w.heap.size < w1.heap.size := by omega); (have hl1_0 : w.heap.size ≤ w1.heap.size := by omega); (have hr1_0 := fun o => hc1 (w.heap.size) o (by first | omega | (simp; done) | (simp; omega))); (have hs1_0 := fun o => hf1 (w.heap.size) o (by first | omega | (simp; done) | (simp; omega))); (try simp (disch := first | omega | (simp; omega)) only [World.cell?_alloc_past, World.cell?_drew] at hr1_0); (try simp (disch := first | omega | (simp; omega)) only [World.frozen?_alloc_past, World.frozen?_drew] at hs1_0); clear hc1 hf1)
          go_wp2
          exact bodyPost_ret (v := x.val) (by simp [results, Tryz.results6, go_sem, *]) rfl ⟨x, rfl, Or.inl hx, (by repeat (first | with_reducible exact Below.refl _ _ | with_reducible assumption | ((with_reducible refine Below.setCell ?_ ?_ _); rotate_left; (simp; try omega)) | (with_reducible refine Ext.tr ?_ (by with_reducible assumption)) | (with_reducible refine Ext.al ?_ _) | (with_reducible refine below_drewN ?_ _) | (with_reducible refine Below.drew ?_)))⟩

set_option maxHeartbeats 1600000 in
theorem read_empty (s : ByteArray) (w : World) (h0 : s.size = 0) :
    Calls Tryz.prog 6 #[.string s] w fun e w' => ∃ x : Sc, e = .returned x.val ∧ (NumD x ∨ (x = ⟨4, 0, 0, valueT⟩ ∧ wordT s = true)) ∧ Ext w w' := by
  have HO := Lib.hid (fun w' => other_ok s w' (by omega))
  go_enter Tryz.func6, Tryz.ntmps6
  go_wp2
  go_loop [3, 5, 6, 7, 8] (fun a nn mm dd pp => a = .int .i64 0 ∧ mm = .int .i64 0) (fun a _ _ _ _ => 1 - (intOf a).toNat)
  case atStart => exact ⟨rfl, rfl⟩
  case round =>
    obtain ⟨rfl, rfl⟩ := hrel
    go_wp2_with fail
    (go_wp2_with fail; refine (HO.out _).mono ?_; rintro e w1 ⟨rfl, hb1⟩; obtain ⟨hc1, hf1, hz1⟩ := ext_facts hb1; (try simp at hz1); (have hq1_0 : w.heap.size < w1.heap.size := by omega); (have hl1_0 : w.heap.size ≤ w1.heap.size := by omega); (have hr1_0 := fun o => hc1 (w.heap.size) o (by first | omega | (simp; done) | (simp; omega))); (have hs1_0 := fun o => hf1 (w.heap.size) o (by first | omega | (simp; done) | (simp; omega))); (try simp (disch := first | omega | (simp; omega)) only [World.cell?_alloc_past, World.cell?_drew] at hr1_0); (try simp (disch := first | omega | (simp; omega)) only [World.frozen?_alloc_past, World.frozen?_drew] at hs1_0); clear hc1 hf1)
    go_wp2
    exact bodyPost_ret (v := (otherSc s).val) (by simp [results, Tryz.results6, go_sem, *]) rfl ⟨otherSc s, rfl, otherSc_word s, (by repeat (first | with_reducible exact Below.refl _ _ | with_reducible assumption | ((with_reducible refine Below.setCell ?_ ?_ _); rotate_left; (simp; try omega)) | (with_reducible refine Ext.tr ?_ (by with_reducible assumption)) | (with_reducible refine Ext.al ?_ _) | (with_reducible refine below_drewN ?_ _) | (with_reducible refine Below.drew ?_)))⟩

theorem read_any (s : ByteArray) (w : World) (hs : s.size ≤ 1000000000) : Calls Tryz.prog 6 #[.string s] w fun e w' => ∃ x : Sc, e = .returned x.val ∧ (NumD x ∨ (x = ⟨4, 0, 0, valueT⟩ ∧ wordT s = true)) ∧ Ext w w' := by
  by_cases h0 : 0 < s.size
  · cases h45 : (((s[0]'h0).toNat : Int) == 45)
    · exact read_plus s w hs h0 h45
    · exact read_minus s w hs h0 h45
  · exact read_empty s w (by omega)
end Go.Proofs.YtlbhebmjdaaglaaGreatDoor
