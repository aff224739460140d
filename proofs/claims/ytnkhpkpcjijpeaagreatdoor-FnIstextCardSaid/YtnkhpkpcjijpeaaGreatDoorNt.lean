/-
  numeric of a text: it says something; what Fits asks of numbers, where texts are among the arguments.
-/
import Derived.Test.YtnkhpkpcjijpeaaGreatDoorRead
import Derived.Test.YtnkhpkpcjijpeaaGreatDoorDig
import Derived.Test.YtnkhpkpcjijpeaaGreatDoorUp2
import Derived.Deep.RegionWith
namespace Go.Proofs.YtnkhpkpcjijpeaaGreatDoor
set_option linter.unusedSimpArgs false
set_option linter.unusedVariables false
open Go Go.RowKit
set_option maxRecDepth 100000

set_option maxHeartbeats 400000 in
theorem abs_ok (n : Int) (w : World) (h1 : -99999999999 ≤ n) (h2 : n ≤ 99999999999) : Calls Tryz.prog 203 #[.int .i64 n] w (Gives w (.int .i64 (if n < 0 then -n else n))) := by
  by_cases hn : n < 0
  · rw [if_pos hn]
    go_enter Tryz.func203, Tryz.ntmps203
    go_wp2
    go_ret
    exact ⟨rfl, (by repeat (first | with_reducible exact Below.refl _ _ | with_reducible assumption | ((with_reducible refine Below.setCell ?_ ?_ _); rotate_left; (simp; try omega)) | (with_reducible refine Ext.tr ?_ (by with_reducible assumption)) | (with_reducible refine Ext.al ?_ _) | (with_reducible refine below_drewN ?_ _) | (with_reducible refine Below.drew ?_)))⟩
  · rw [if_neg hn]
    go_enter Tryz.func203, Tryz.ntmps203
    go_wp2
    go_ret
    exact ⟨rfl, (by repeat (first | with_reducible exact Below.refl _ _ | with_reducible assumption | ((with_reducible refine Below.setCell ?_ ?_ _); rotate_left; (simp; try omega)) | (with_reducible refine Ext.tr ?_ (by with_reducible assumption)) | (with_reducible refine Ext.al ?_ _) | (with_reducible refine below_drewN ?_ _) | (with_reducible refine Below.drew ?_)))⟩

@[go_sem] theorem undef_eq : undef = Value.tuple #[] := rfl

set_option maxHeartbeats 6400000 in
theorem numeric_text (n d : Int) (s : ByteArray) (w : World) (hs : s.size ≤ 1000000000) : Calls Tryz.prog 123 #[Sc.val ⟨2, n, d, s⟩] w fun e w' => ∃ r : Bool, e = .returned (.bool r) ∧ Ext w w' := by
  have HR := Lib.hid (fun w' => read_any s w' hs)
  have hl := fun w' => letters_ok s w' hs
  generalize wordT s = wd at hl
  have HL := Lib.hid hl; clear hl
  cases wd
  · go_enter Tryz.func123, Tryz.ntmps123
    go_wp2_with fail
    refine (HR.out _).mono ?_
    rintro e w1 ⟨x, rfl, hx, hb1⟩
    (obtain ⟨hc1, hf1, hz1⟩ := ext_facts hb1; (try simp at hz1); (have hq1_0 : w.heap.size < w1.heap.size := by omega); (have hl1_0 : w.heap.size ≤ w1.heap.size := by omega); (have hr1_0 := fun o => hc1 (w.heap.size) o (by first | omega | (simp; done) | (simp; omega))); (have hs1_0 := fun o => hf1 (w.heap.size) o (by first | omega | (simp; done) | (simp; omega))); (try simp (disch := first | omega | (simp; omega)) only [World.cell?_alloc_past, World.cell?_drew] at hr1_0); (try simp (disch := first | omega | (simp; omega)) only [World.frozen?_alloc_past, World.frozen?_drew] at hs1_0); clear hc1 hf1)
    by_cases hwh : x.k = 1 ∧ x.d = 1
    · have hxx : ∃ m : Int, x = ⟨1, m, 1, ⟨#[]⟩⟩ ∧ -99999999999 ≤ m ∧ m ≤ 99999999999 := by
        obtain ⟨k, m, d, t⟩ := x
        simp only at hwh
        obtain ⟨rfl, rfl⟩ := hwh
        rcases hx with (h | ⟨_, _, h1, h2, ht⟩) | h
        · cases h
        · simp only at h1 h2 ht
          subst ht; exact ⟨m, rfl, h1, h2⟩
        · cases h
      obtain ⟨m, rfl, m1, m2⟩ := hxx
      clear hx hwh
      have hi := fun w' => isWhole_any 1 m 1 ⟨#[]⟩ w'
      rw [show ((1 : Int) == 1 && (1 : Int) == 1) = true from rfl] at hi
      have HI := Lib.hid hi
      obtain ⟨t, hpl⟩ := plain_some m m1 m2
      have hab := fun w' => abs_ok m w' m1 m2
      generalize (if m < 0 then -m else m) = q at hab
      have HPL := Lib.hid hpl; have HAB := Lib.hid hab
      clear hi hpl hab
      cases hts : (t.toList == s.toList)
      · go_wp2_with fail
        first | (go_region_with (first | (go_at_call 141; refine (HL.out _).mono ?_; rintro e w2 ⟨rfl, hb2⟩; (obtain ⟨hc2, hf2, hz2⟩ := ext_facts hb2; (try simp at hz2); (have hq2_0 : w.heap.size < w2.heap.size := by omega); (have hl2_0 : w.heap.size ≤ w2.heap.size := by omega); (have hr2_0 := fun o => hc2 (w.heap.size) o (by first | omega | (simp; done) | (simp; omega))); (have hs2_0 := fun o => hf2 (w.heap.size) o (by first | omega | (simp; done) | (simp; omega))); (try simp (disch := first | omega | (simp; omega)) only [World.cell?_alloc_past, World.cell?_drew] at hr2_0); (try simp (disch := first | omega | (simp; omega)) only [World.frozen?_alloc_past, World.frozen?_drew] at hs2_0); (have hq2_1 : w1.heap.size < w2.heap.size := by omega); (have hl2_1 : w1.heap.size ≤ w2.heap.size := by omega); (have hr2_1 := fun o => hc2 (w1.heap.size) o (by first | omega | (simp; done) | (simp; omega))); (have hs2_1 := fun o => hf2 (w1.heap.size) o (by first | omega | (simp; done) | (simp; omega))); (try simp (disch := first | omega | (simp; omega)) only [World.cell?_alloc_past, World.cell?_drew] at hr2_1); (try simp (disch := first | omega | (simp; omega)) only [World.frozen?_alloc_past, World.frozen?_drew] at hs2_1); clear hc2 hf2)) | (go_at_call 148; refine (HI.out _).mono ?_; rintro e w3 ⟨rfl, hb3⟩; (obtain ⟨hc3, hf3, hz3⟩ := ext_facts hb3; (try simp at hz3); (have hq3_0 : w.heap.size < w3.heap.size := by omega); (have hl3_0 : w.heap.size ≤ w3.heap.size := by omega); (have hr3_0 := fun o => hc3 (w.heap.size) o (by first | omega | (simp; done) | (simp; omega))); (have hs3_0 := fun o => hf3 (w.heap.size) o (by first | omega | (simp; done) | (simp; omega))); (try simp (disch := first | omega | (simp; omega)) only [World.cell?_alloc_past, World.cell?_drew] at hr3_0); (try simp (disch := first | omega | (simp; omega)) only [World.frozen?_alloc_past, World.frozen?_drew] at hs3_0); (have hq3_1 : w1.heap.size < w3.heap.size := by omega); (have hl3_1 : w1.heap.size ≤ w3.heap.size := by omega); (have hr3_1 := fun o => hc3 (w1.heap.size) o (by first | omega | (simp; done) | (simp; omega))); (have hs3_1 := fun o => hf3 (w1.heap.size) o (by first | omega | (simp; done) | (simp; omega))); (try simp (disch := first | omega | (simp; omega)) only [World.cell?_alloc_past, World.cell?_drew] at hr3_1); (try simp (disch := first | omega | (simp; omega)) only [World.frozen?_alloc_past, World.frozen?_drew] at hs3_1); clear hc3 hf3)) | (go_at_call 202; refine (HPL.out _).mono ?_; rintro e w4 ⟨rfl, hb4⟩; (obtain ⟨hc4, hf4, hz4⟩ := ext_facts hb4; (try simp at hz4); (have hq4_0 : w.heap.size < w4.heap.size := by omega); (have hl4_0 : w.heap.size ≤ w4.heap.size := by omega); (have hr4_0 := fun o => hc4 (w.heap.size) o (by first | omega | (simp; done) | (simp; omega))); (have hs4_0 := fun o => hf4 (w.heap.size) o (by first | omega | (simp; done) | (simp; omega))); (try simp (disch := first | omega | (simp; omega)) only [World.cell?_alloc_past, World.cell?_drew] at hr4_0); (try simp (disch := first | omega | (simp; omega)) only [World.frozen?_alloc_past, World.frozen?_drew] at hs4_0); (have hq4_1 : w1.heap.size < w4.heap.size := by omega); (have hl4_1 : w1.heap.size ≤ w4.heap.size := by omega); (have hr4_1 := fun o => hc4 (w1.heap.size) o (by first | omega | (simp; done) | (simp; omega))); (have hs4_1 := fun o => hf4 (w1.heap.size) o (by first | omega | (simp; done) | (simp; omega))); (try simp (disch := first | omega | (simp; omega)) only [World.cell?_alloc_past, World.cell?_drew] at hr4_1); (try simp (disch := first | omega | (simp; omega)) only [World.frozen?_alloc_past, World.frozen?_drew] at hs4_1); clear hc4 hf4)) | (go_at_call 203; refine (HAB.out _).mono ?_; rintro e w5 ⟨rfl, hb5⟩; (obtain ⟨hc5, hf5, hz5⟩ := ext_facts hb5; (try simp at hz5); (have hq5_0 : w.heap.size < w5.heap.size := by omega); (have hl5_0 : w.heap.size ≤ w5.heap.size := by omega); (have hr5_0 := fun o => hc5 (w.heap.size) o (by first | omega | (simp; done) | (simp; omega))); (have hs5_0 := fun o => hf5 (w.heap.size) o (by first | omega | (simp; done) | (simp; omega))); (try simp (disch := first | omega | (simp; omega)) only [World.cell?_alloc_past, World.cell?_drew] at hr5_0); (try simp (disch := first | omega | (simp; omega)) only [World.frozen?_alloc_past, World.frozen?_drew] at hs5_0); (have hq5_1 : w1.heap.size < w5.heap.size := by omega); (have hl5_1 : w1.heap.size ≤ w5.heap.size := by omega); (have hr5_1 := fun o => hc5 (w1.heap.size) o (by first | omega | (simp; done) | (simp; omega))); (have hs5_1 := fun o => hf5 (w1.heap.size) o (by first | omega | (simp; done) | (simp; omega))); (try simp (disch := first | omega | (simp; omega)) only [World.cell?_alloc_past, World.cell?_drew] at hr5_1); (try simp (disch := first | omega | (simp; omega)) only [World.frozen?_alloc_past, World.frozen?_drew] at hs5_1); clear hc5 hf5)))) | fail "no"
        all_goals
          go_wp2
          go_ret
          exact ⟨_, rfl, (by repeat (first | with_reducible exact Below.refl _ _ | with_reducible assumption | ((with_reducible refine Below.setCell ?_ ?_ _); rotate_left; (simp; try omega)) | (with_reducible refine Ext.tr ?_ (by with_reducible assumption)) | (with_reducible refine Ext.al ?_ _) | (with_reducible refine below_drewN ?_ _) | (with_reducible refine Below.drew ?_)))⟩
      · go_wp2_with fail
        first | (go_region_with (first | (go_at_call 141; refine (HL.out _).mono ?_; rintro e w2 ⟨rfl, hb2⟩; (obtain ⟨hc2, hf2, hz2⟩ := ext_facts hb2; (try simp at hz2); (have hq2_0 : w.heap.size < w2.heap.size := by omega); (have hl2_0 : w.heap.size ≤ w2.heap.size := by omega); (have hr2_0 := fun o => hc2 (w.heap.size) o (by first | omega | (simp; done) | (simp; omega))); (have hs2_0 := fun o => hf2 (w.heap.size) o (by first | omega | (simp; done) | (simp; omega))); (try simp (disch := first | omega | (simp; omega)) only [World.cell?_alloc_past, World.cell?_drew] at hr2_0); (try simp (disch := first | omega | (simp; omega)) only [World.frozen?_alloc_past, World.frozen?_drew] at hs2_0); (have hq2_1 : w1.heap.size < w2.heap.size := by omega); (have hl2_1 : w1.heap.size ≤ w2.heap.size := by omega); (have hr2_1 := fun o => hc2 (w1.heap.size) o (by first | omega | (simp; done) | (simp; omega))); (have hs2_1 := fun o => hf2 (w1.heap.size) o (by first | omega | (simp; done) | (simp; omega))); (try simp (disch := first | omega | (simp; omega)) only [World.cell?_alloc_past, World.cell?_drew] at hr2_1); (try simp (disch := first | omega | (simp; omega)) only [World.frozen?_alloc_past, World.frozen?_drew] at hs2_1); clear hc2 hf2)) | (go_at_call 148; refine (HI.out _).mono ?_; rintro e w3 ⟨rfl, hb3⟩; (obtain ⟨hc3, hf3, hz3⟩ := ext_facts hb3; (try simp at hz3); (have hq3_0 : w.heap.size < w3.heap.size := by omega); (have hl3_0 : w.heap.size ≤ w3.heap.size := by omega); (have hr3_0 := fun o => hc3 (w.heap.size) o (by first | omega | (simp; done) | (simp; omega))); (have hs3_0 := fun o => hf3 (w.heap.size) o (by first | omega | (simp; done) | (simp; omega))); (try simp (disch := first | omega | (simp; omega)) only [World.cell?_alloc_past, World.cell?_drew] at hr3_0); (try simp (disch := first | omega | (simp; omega)) only [World.frozen?_alloc_past, World.frozen?_drew] at hs3_0); (have hq3_1 : w1.heap.size < w3.heap.size := by omega); (have hl3_1 : w1.heap.size ≤ w3.heap.size := by omega); (have hr3_1 := fun o => hc3 (w1.heap.size) o (by first | omega | (simp; done) | (simp; omega))); (have hs3_1 := fun o => hf3 (w1.heap.size) o (by first | omega | (simp; done) | (simp; omega))); (try simp (disch := first | omega | (simp; omega)) only [World.cell?_alloc_past, World.cell?_drew] at hr3_1); (try simp (disch := first | omega | (simp; omega)) only [World.frozen?_alloc_past, World.frozen?_drew] at hs3_1); clear hc3 hf3)) | (go_at_call 202; refine (HPL.out _).mono ?_; rintro e w4 ⟨rfl, hb4⟩; (obtain ⟨hc4, hf4, hz4⟩ := ext_facts hb4; (try simp at hz4); (have hq4_0 : w.heap.size < w4.heap.size := by omega); (have hl4_0 : w.heap.size ≤ w4.heap.size := by omega); (have hr4_0 := fun o => hc4 (w.heap.size) o (by first | omega | (simp; done) | (simp; omega))); (have hs4_0 := fun o => hf4 (w.heap.size) o (by first | omega | (simp; done) | (simp; omega))); (try simp (disch := first | omega | (simp; omega)) only [World.cell?_alloc_past, World.cell?_drew] at hr4_0); (try simp (disch := first | omega | (simp; omega)) only [World.frozen?_alloc_past, World.frozen?_drew] at hs4_0); (have hq4_1 : w1.heap.size < w4.heap.size := by omega); (have hl4_1 : w1.heap.size ≤ w4.heap.size := by omega); (have hr4_1 := fun o => hc4 (w1.heap.size) o (by first | omega | (simp; done) | (simp; omega))); (have hs4_1 := fun o => hf4 (w1.heap.size) o (by first | omega | (simp; done) | (simp; omega))); (try simp (disch := first | omega | (simp; omega)) only [World.cell?_alloc_past, World.cell?_drew] at hr4_1); (try simp (disch := first | omega | (simp; omega)) only [World.frozen?_alloc_past, World.frozen?_drew] at hs4_1); clear hc4 hf4)) | (go_at_call 203; refine (HAB.out _).mono ?_; rintro e w5 ⟨rfl, hb5⟩; (obtain ⟨hc5, hf5, hz5⟩ := ext_facts hb5; (try simp at hz5); (have hq5_0 : w.heap.size < w5.heap.size := by omega); (have hl5_0 : w.heap.size ≤ w5.heap.size := by omega); (have hr5_0 := fun o => hc5 (w.heap.size) o (by first | omega | (simp; done) | (simp; omega))); (have hs5_0 := fun o => hf5 (w.heap.size) o (by first | omega | (simp; done) | (simp; omega))); (try simp (disch := first | omega | (simp; omega)) only [World.cell?_alloc_past, World.cell?_drew] at hr5_0); (try simp (disch := first | omega | (simp; omega)) only [World.frozen?_alloc_past, World.frozen?_drew] at hs5_0); (have hq5_1 : w1.heap.size < w5.heap.size := by omega); (have hl5_1 : w1.heap.size ≤ w5.heap.size := by omega); (have hr5_1 := fun o => hc5 (w1.heap.size) o (by first | omega | (simp; done) | (simp; omega))); (have hs5_1 := fun o => hf5 (w1.heap.size) o (by first | omega | (simp; done) | (simp; omega))); (try simp (disch := first | omega | (simp; omega)) only [World.cell?_alloc_past, World.cell?_drew] at hr5_1); (try simp (disch := first | omega | (simp; omega)) only [World.frozen?_alloc_past, World.frozen?_drew] at hs5_1); clear hc5 hf5)))) | fail "no"
        all_goals
          go_wp2
          go_ret
          exact ⟨_, rfl, (by repeat (first | with_reducible exact Below.refl _ _ | with_reducible assumption | ((with_reducible refine Below.setCell ?_ ?_ _); rotate_left; (simp; try omega)) | (with_reducible refine Ext.tr ?_ (by with_reducible assumption)) | (with_reducible refine Ext.al ?_ _) | (with_reducible refine below_drewN ?_ _) | (with_reducible refine Below.drew ?_)))⟩
    · have hk : (x.k == 1 && x.d == 1) = false := by
        by_cases h1 : x.k = 1
        · have h2 : ¬ x.d = 1 := fun h => hwh ⟨h1, h⟩
          rw [beq_eq_false_iff_ne.2 h2, Bool.and_false]
        · rw [beq_eq_false_iff_ne.2 h1, Bool.false_and]
      have hi := fun w' => isWhole_any x.k x.n x.d x.t w'
      rw [hk] at hi
      have HI := Lib.hid hi
      clear hi hk hwh hx
      go_wp2_with fail
      first | (go_region_with (first | (go_at_call 141; refine (HL.out _).mono ?_; rintro e w2 ⟨rfl, hb2⟩; (obtain ⟨hc2, hf2, hz2⟩ := ext_facts hb2; (try simp at hz2); (have hq2_0 : w.heap.size < w2.heap.size := by omega); (have hl2_0 : w.heap.size ≤ w2.heap.size := by omega); (have hr2_0 := fun o => hc2 (w.heap.size) o (by first | omega | (simp; done) | (simp; omega))); (have hs2_0 := fun o => hf2 (w.heap.size) o (by first | omega | (simp; done) | (simp; omega))); (try simp (disch := first | omega | (simp; omega)) only [World.cell?_alloc_past, World.cell?_drew] at hr2_0); (try simp (disch := first | omega | (simp; omega)) only [World.frozen?_alloc_past, World.frozen?_drew] at hs2_0); (have hq2_1 : w1.heap.size < w2.heap.size := by omega); (have hl2_1 : w1.heap.size ≤ w2.heap.size := by omega); (have hr2_1 := fun o => hc2 (w1.heap.size) o (by first | omega | (simp; done) | (simp; omega))); (have hs2_1 := fun o => hf2 (w1.heap.size) o (by first | omega | (simp; done) | (simp; omega))); (try simp (disch := first | omega | (simp; omega)) only [World.cell?_alloc_past, World.cell?_drew] at hr2_1); (try simp (disch := first | omega | (simp; omega)) only [World.frozen?_alloc_past, World.frozen?_drew] at hs2_1); clear hc2 hf2)) | (go_at_call 148; refine (HI.out _).mono ?_; rintro e w3 ⟨rfl, hb3⟩; (obtain ⟨hc3, hf3, hz3⟩ := ext_facts hb3; (try simp at hz3); (have hq3_0 : w.heap.size < w3.heap.size := by omega); (have hl3_0 : w.heap.size ≤ w3.heap.size := by omega); (have hr3_0 := fun o => hc3 (w.heap.size) o (by first | omega | (simp; done) | (simp; omega))); (have hs3_0 := fun o => hf3 (w.heap.size) o (by first | omega | (simp; done) | (simp; omega))); (try simp (disch := first | omega | (simp; omega)) only [World.cell?_alloc_past, World.cell?_drew] at hr3_0); (try simp (disch := first | omega | (simp; omega)) only [World.frozen?_alloc_past, World.frozen?_drew] at hs3_0); (have hq3_1 : w1.heap.size < w3.heap.size := by omega); (have hl3_1 : w1.heap.size ≤ w3.heap.size := by omega); (have hr3_1 := fun o => hc3 (w1.heap.size) o (by first | omega | (simp; done) | (simp; omega))); (have hs3_1 := fun o => hf3 (w1.heap.size) o (by first | omega | (simp; done) | (simp; omega))); (try simp (disch := first | omega | (simp; omega)) only [World.cell?_alloc_past, World.cell?_drew] at hr3_1); (try simp (disch := first | omega | (simp; omega)) only [World.frozen?_alloc_past, World.frozen?_drew] at hs3_1); clear hc3 hf3)))) | fail "no"
      all_goals
        go_wp2
        go_ret
        exact ⟨_, rfl, (by repeat (first | with_reducible exact Below.refl _ _ | with_reducible assumption | ((with_reducible refine Below.setCell ?_ ?_ _); rotate_left; (simp; try omega)) | (with_reducible refine Ext.tr ?_ (by with_reducible assumption)) | (with_reducible refine Ext.al ?_ _) | (with_reducible refine below_drewN ?_ _) | (with_reducible refine Below.drew ?_)))⟩
  · go_enter Tryz.func123, Tryz.ntmps123
    go_wp2_with fail
    refine (HR.out _).mono ?_
    rintro e w1 ⟨x, rfl, hx, hb1⟩
    (obtain ⟨hc1, hf1, hz1⟩ := ext_facts hb1; (try simp at hz1); (have hq1_0 : w.heap.size < w1.heap.size := by omega); (have hl1_0 : w.heap.size ≤ w1.heap.size := by omega); (have hr1_0 := fun o => hc1 (w.heap.size) o (by first | omega | (simp; done) | (simp; omega))); (have hs1_0 := fun o => hf1 (w.heap.size) o (by first | omega | (simp; done) | (simp; omega))); (try simp (disch := first | omega | (simp; omega)) only [World.cell?_alloc_past, World.cell?_drew] at hr1_0); (try simp (disch := first | omega | (simp; omega)) only [World.frozen?_alloc_past, World.frozen?_drew] at hs1_0); clear hc1 hf1)
    go_wp2_with fail
    first | (go_region_with (first | (go_at_call 141; refine (HL.out _).mono ?_; rintro e w2 ⟨rfl, hb2⟩; (obtain ⟨hc2, hf2, hz2⟩ := ext_facts hb2; (try simp at hz2); (have hq2_0 : w.heap.size < w2.heap.size := by omega); (have hl2_0 : w.heap.size ≤ w2.heap.size := by omega); (have hr2_0 := fun o => hc2 (w.heap.size) o (by first | omega | (simp; done) | (simp; omega))); (have hs2_0 := fun o => hf2 (w.heap.size) o (by first | omega | (simp; done) | (simp; omega))); (try simp (disch := first | omega | (simp; omega)) only [World.cell?_alloc_past, World.cell?_drew] at hr2_0); (try simp (disch := first | omega | (simp; omega)) only [World.frozen?_alloc_past, World.frozen?_drew] at hs2_0); (have hq2_1 : w1.heap.size < w2.heap.size := by omega); (have hl2_1 : w1.heap.size ≤ w2.heap.size := by omega); (have hr2_1 := fun o => hc2 (w1.heap.size) o (by first | omega | (simp; done) | (simp; omega))); (have hs2_1 := fun o => hf2 (w1.heap.size) o (by first | omega | (simp; done) | (simp; omega))); (try simp (disch := first | omega | (simp; omega)) only [World.cell?_alloc_past, World.cell?_drew] at hr2_1); (try simp (disch := first | omega | (simp; omega)) only [World.frozen?_alloc_past, World.frozen?_drew] at hs2_1); clear hc2 hf2)))) | fail "no"
    all_goals
      go_wp2
      go_ret
      exact ⟨_, rfl, (by repeat (first | with_reducible exact Below.refl _ _ | with_reducible assumption | ((with_reducible refine Below.setCell ?_ ?_ _); rotate_left; (simp; try omega)) | (with_reducible refine Ext.tr ?_ (by with_reducible assumption)) | (with_reducible refine Ext.al ?_ _) | (with_reducible refine below_drewN ?_ _) | (with_reducible refine Below.drew ?_)))⟩
end Go.Proofs.YtnkhpkpcjijpeaaGreatDoor
