/-
  QUOTIENT of the package.
-/
import Derived.Test.YtpibjonfkkiliaaGreatDoorNum
import Derived.Test.YtpibjonfkkiliaaGreatDoorTru
import Derived.Test.YtpibjonfkkiliaaGreatDoorTq
namespace Go.Proofs.YtpibjonfkkiliaaGreatDoor
set_option linter.unusedSimpArgs false
set_option linter.unusedVariables false
open Go Go.RowKit
set_option maxRecDepth 100000

theorem zero_eq {m : Int} (h0 : m ≠ 0) (h1 : -2 ^ 53 < m) (h2 : m < 2 ^ 53) : (FloatKind.f64.format.order (Fl.fx 0 m) 0 == some Ordering.eq) = false := by
  have h := order_fx0 (a := m) (b := 0) h1 h2 (by omega) (by omega)
  rw [show Fl.fx 0 0 = 0 by decide] at h
  rw [h]
  rcases (show m < 0 ∨ 0 < m by omega) with h | h
  · rw [cmp_lt h]; rfl
  · rw [cmp_gt h]; rfl

set_option maxHeartbeats 800000 in
/-- A nought of any sign becomes the one without. -/
theorem newNumber_nought (neg : Bool) (w : World) : Calls Tryz.prog 38 #[.float .f64 (Ieee.double.word neg 0)] w (Gives w (fnum 0)) := by
  cases neg
  · rw [show Ieee.double.word false 0 = 0 by decide]
    exact newNumber_ok 0 w tame_zero
  · rw [show Ieee.double.word true 0 = 9223372036854775808 by decide]
    have hs : FloatKind.f64.format.order 9223372036854775808 9223372036854775808 = some Ordering.eq := by decide
    have hz : (FloatKind.f64.format.order 9223372036854775808 0 == some Ordering.eq) = true := by decide
    go_enter Tryz.func38, Tryz.ntmps38
    go_wp2_with (go_at_call 112; refine (isNaN_no _ _ hs).mono ?_; rintro e w1 ⟨rfl, hb⟩; obtain ⟨hc, hf, hz⟩ := ext_facts hb; (try simp at hz); (try (have hq : w.heap.size < w1.heap.size := by omega)); (try (have hq' : w.heap.size ≤ w1.heap.size := by omega)); (try (have hr := fun o => hc w.heap.size o (by first | omega | (simp; done) | (simp; omega)))); (try (have hrf := fun o => hf w.heap.size o (by first | omega | (simp; done) | (simp; omega)))))
    exact bodyPost_ret (v := fnum 0) (by simp [results, Tryz.results38, go_sem, *]) rfl ⟨rfl, (by repeat (first | with_reducible exact Below.refl _ _ | with_reducible assumption | ((with_reducible refine Below.setCell ?_ ?_ _); rotate_left; (simp; try omega)) | (with_reducible refine Ext.tr ?_ (by with_reducible assumption)) | (with_reducible refine Ext.al ?_ _) | (with_reducible refine below_drewN ?_ _) | (with_reducible refine Below.drew ?_)))⟩

/-- The word of the whole part of a quotient, as QUOTIENT makes it: with the sign of the quotient, if it is nought. -/
theorem quot_word {n m : Int} (h0 : m ≠ 0) (n1 : -1000000000 ≤ n) (n2 : n ≤ 1000000000) (m1 : -1000000000 ≤ m) (m2 : m ≤ 1000000000) :
    ∃ x y : Nat, Ieee.double.div (Fl.fx 0 n) (Fl.fx 0 m) = some x ∧ (∀ w, Calls Tryz.prog 39 #[.float .f64 x] w (Gives w (.float .f64 y))) ∧
      (∀ w, Calls Tryz.prog 38 #[.float .f64 y] w (Gives w (fnum (Fl.fx 0 (n.tdiv m))))) := by
  have hz : Fl.fx 0 0 = 0 := by decide
  by_cases hn : n = 0
  · subst hn
    refine ⟨_, _, Fl.div_nought h0 (by omega) (by omega), fun w => Trunc_nought _ w, fun w => ?_⟩
    rw [Int.zero_tdiv, hz]
    exact newNumber_nought _ w
  · obtain ⟨M, e, hd, a1, a2, a3, a4, hs, hb⟩ := Fl.div_whole hn h0 (by omega) (by omega)
    by_cases hlt : n.natAbs < m.natAbs
    · have h53 := hs hlt
      refine ⟨_, _, hd, fun w => Trunc_bits w a1 a2 a3 a4, fun w => ?_⟩
      rw [if_neg (by omega), nearest_nought, Fl.quot_small hlt, hz]
      exact newNumber_nought _ w
    · obtain ⟨a5, a6⟩ := hb (by omega)
      have e1 : Ieee.double.nearest (Bool.xor (decide (n < 0)) (decide (m < 0))) (M / 2 ^ (-e).toNat) 0 = Fl.fx 0 (n.tdiv m) := by
        unfold Fl.fx
        rw [a6, Fl.tdiv_sign h0 (by omega), Int.natAbs_tdiv]
        rfl
      refine ⟨_, _, hd, fun w => Trunc_bits w a1 a2 a3 a4, fun w => ?_⟩
      rw [if_pos a5, e1]
      have hab : (n.tdiv m).natAbs = n.natAbs / m.natAbs := Int.natAbs_tdiv n m
      have hle := Nat.div_le_self n.natAbs m.natAbs
      exact newNumber_ok _ w (tame_fx0 (by omega) (by omega))

set_option maxHeartbeats 1600000 in
theorem fn_quot (n m : Int) (fb b B : Nat) (w : World) (h0 : m ≠ 0) (n1 : -1000000000 ≤ n) (n2 : n ≤ 1000000000) (m1 : -1000000000 ≤ m) (m2 : m ≤ 1000000000) (ha : ArgsAt w b B [fnumC (Fl.fx 0 n), fnumC (Fl.fx 0 m)]) :
    Calls Tryz.prog 21 #[ptr fb, ptr b] w (Gives w (fnum (Fl.fx 0 (n.tdiv m)))) := by
  have HA := Lib.hid ha; clear ha
  have HT1 := Lib.hid (tame_fx0 (n := n) (by omega) (by omega))
  have HT2 := Lib.hid (tame_fx0 (n := m) (by omega) (by omega))
  have hz := zero_eq h0 (by omega) (by omega)
  obtain ⟨q, r, hdiv, htr, hnn⟩ := quot_word h0 n1 n2 m1 m2
  have HTR := Lib.hid htr; have HNN := Lib.hid hnn; clear htr hnn
  have hdiv' := fun w => run_float_arith (P := Tryz.prog) w .quo 34 .f64 (Fl.fx 0 n) (Fl.fx 0 m) q hdiv
  clear hdiv n1 n2 m1 m2 h0
  generalize Fl.fx 0 (n.tdiv m) = v at HNN ⊢
  generalize Fl.fx 0 n = x at HA HT1 hdiv'
  generalize Fl.fx 0 m = y at HA HT2 hdiv' hz
  go_enter Tryz.func21, Tryz.ntmps21
  (go_wp2_with fail; refine (len_ok _ b B _ (HA.out.ext (by repeat (first | with_reducible exact Below.refl _ _ | with_reducible assumption | ((with_reducible refine Below.setCell ?_ ?_ _); rotate_left; (simp; try omega)) | (with_reducible refine Ext.tr ?_ (by with_reducible assumption)) | (with_reducible refine Ext.al ?_ _) | (with_reducible refine below_drewN ?_ _) | (with_reducible refine Below.drew ?_))))).mono ?_; rintro e w1 ⟨rfl, rfl⟩)
  (go_wp2_with fail; refine (front_ok _ b B _ [fnumC y] (HA.out.ext (by repeat (first | with_reducible exact Below.refl _ _ | with_reducible assumption | ((with_reducible refine Below.setCell ?_ ?_ _); rotate_left; (simp; try omega)) | (with_reducible refine Ext.tr ?_ (by with_reducible assumption)) | (with_reducible refine Ext.al ?_ _) | (with_reducible refine below_drewN ?_ _) | (with_reducible refine Below.drew ?_))))).mono ?_; rintro e w1 ⟨⟨n1, rfl, he⟩, rfl⟩)
  unfold ElemAt at he
  (go_wp2_with fail; refine (toNumber_num x false _ HT1.out).mono ?_; rintro e w2 ⟨rfl, hb2⟩; obtain ⟨hc2, hf2, hz2⟩ := ext_facts hb2; (try simp at hz2); (have hq2_0 : w.heap.size < w2.heap.size := by omega); (have hl2_0 : w.heap.size ≤ w2.heap.size := by omega); (have hr2_0 := fun o => hc2 (w.heap.size) o (by first | omega | (simp; done) | (simp; omega))); (have hs2_0 := fun o => hf2 (w.heap.size) o (by first | omega | (simp; done) | (simp; omega))); (try simp (disch := first | omega | (simp; omega)) only [World.cell?_alloc_past, World.cell?_drew] at hr2_0); (try simp (disch := first | omega | (simp; omega)) only [World.frozen?_alloc_past, World.frozen?_drew] at hs2_0); clear hc2 hf2)
  clear he
  (go_wp2_with fail; refine (back_ok _ b B (fnumC y) [fnumC x] (HA.out.ext (by repeat (first | with_reducible exact Below.refl _ _ | with_reducible assumption | ((with_reducible refine Below.setCell ?_ ?_ _); rotate_left; (simp; try omega)) | (with_reducible refine Ext.tr ?_ (by with_reducible assumption)) | (with_reducible refine Ext.al ?_ _) | (with_reducible refine below_drewN ?_ _) | (with_reducible refine Below.drew ?_))))).mono ?_; rintro e w1 ⟨⟨n2, rfl, he⟩, rfl⟩)
  unfold ElemAt at he
  (go_wp2_with fail; refine (toNumber_num y false _ HT2.out).mono ?_; rintro e w3 ⟨rfl, hb3⟩; obtain ⟨hc3, hf3, hz3⟩ := ext_facts hb3; (try simp at hz3); (have hq3_0 : w.heap.size < w3.heap.size := by omega); (have hl3_0 : w.heap.size ≤ w3.heap.size := by omega); (have hr3_0 := fun o => hc3 (w.heap.size) o (by first | omega | (simp; done) | (simp; omega))); (have hs3_0 := fun o => hf3 (w.heap.size) o (by first | omega | (simp; done) | (simp; omega))); (try simp (disch := first | omega | (simp; omega)) only [World.cell?_alloc_past, World.cell?_drew] at hr3_0); (try simp (disch := first | omega | (simp; omega)) only [World.frozen?_alloc_past, World.frozen?_drew] at hs3_0); (have hq3_1 : w2.heap.size < w3.heap.size := by omega); (have hl3_1 : w2.heap.size ≤ w3.heap.size := by omega); (have hr3_1 := fun o => hc3 (w2.heap.size) o (by first | omega | (simp; done) | (simp; omega))); (have hs3_1 := fun o => hf3 (w2.heap.size) o (by first | omega | (simp; done) | (simp; omega))); (try simp (disch := first | omega | (simp; omega)) only [World.cell?_alloc_past, World.cell?_drew] at hr3_1); (try simp (disch := first | omega | (simp; omega)) only [World.frozen?_alloc_past, World.frozen?_drew] at hs3_1); clear hc3 hf3)
  clear he
  (go_wp2_with fail; refine (HTR.out _).mono ?_; rintro e w4 ⟨rfl, hb4⟩; obtain ⟨hc4, hf4, hz4⟩ := ext_facts hb4; (try simp at hz4); (have hq4_0 : w.heap.size < w4.heap.size := by omega); (have hl4_0 : w.heap.size ≤ w4.heap.size := by omega); (have hr4_0 := fun o => hc4 (w.heap.size) o (by first | omega | (simp; done) | (simp; omega))); (have hs4_0 := fun o => hf4 (w.heap.size) o (by first | omega | (simp; done) | (simp; omega))); (try simp (disch := first | omega | (simp; omega)) only [World.cell?_alloc_past, World.cell?_drew] at hr4_0); (try simp (disch := first | omega | (simp; omega)) only [World.frozen?_alloc_past, World.frozen?_drew] at hs4_0); clear hc4 hf4)
  (go_wp2_with fail; refine (HNN.out _).mono ?_; rintro e w5 ⟨rfl, hb5⟩; obtain ⟨hc5, hf5, hz5⟩ := ext_facts hb5; (try simp at hz5); (have hq5_0 : w.heap.size < w5.heap.size := by omega); (have hl5_0 : w.heap.size ≤ w5.heap.size := by omega); (have hr5_0 := fun o => hc5 (w.heap.size) o (by first | omega | (simp; done) | (simp; omega))); (have hs5_0 := fun o => hf5 (w.heap.size) o (by first | omega | (simp; done) | (simp; omega))); (try simp (disch := first | omega | (simp; omega)) only [World.cell?_alloc_past, World.cell?_drew] at hr5_0); (try simp (disch := first | omega | (simp; omega)) only [World.frozen?_alloc_past, World.frozen?_drew] at hs5_0); clear hc5 hf5)
  go_wp2
  exact bodyPost_ret (v := fnum v) (by simp [results, Tryz.results21, go_sem, *]) rfl ⟨rfl, (by repeat (first | with_reducible exact Below.refl _ _ | with_reducible assumption | ((with_reducible refine Below.setCell ?_ ?_ _); rotate_left; (simp; try omega)) | (with_reducible refine Ext.tr ?_ (by with_reducible assumption)) | (with_reducible refine Ext.al ?_ _) | (with_reducible refine below_drewN ?_ _) | (with_reducible refine Below.drew ?_)))⟩

set_option maxHeartbeats 1600000 in
theorem fn_quot_zero (n : Int) (fb b B : Nat) (w : World) (n1 : -1000000000 ≤ n) (n2 : n ≤ 1000000000) (ha : ArgsAt w b B [fnumC (Fl.fx 0 n), fnumC (Fl.fx 0 0)]) :
    Calls Tryz.prog 21 #[ptr fb, ptr b] w (Gives w (ferr ⟨#[35, 68, 73, 86, 47, 48, 33]⟩ ⟨#[35, 68, 73, 86, 47, 48, 33]⟩)) := by
  rw [show Fl.fx 0 0 = 0 by decide] at ha
  have HA := Lib.hid ha; clear ha
  have HT1 := Lib.hid (tame_fx0 (n := n) (by omega) (by omega))
  clear n1 n2
  generalize Fl.fx 0 n = x at HA HT1
  go_enter Tryz.func21, Tryz.ntmps21
  (go_wp2_with fail; refine (len_ok _ b B _ (HA.out.ext (by repeat (first | with_reducible exact Below.refl _ _ | with_reducible assumption | ((with_reducible refine Below.setCell ?_ ?_ _); rotate_left; (simp; try omega)) | (with_reducible refine Ext.tr ?_ (by with_reducible assumption)) | (with_reducible refine Ext.al ?_ _) | (with_reducible refine below_drewN ?_ _) | (with_reducible refine Below.drew ?_))))).mono ?_; rintro e w1 ⟨rfl, rfl⟩)
  (go_wp2_with fail; refine (front_ok _ b B _ [fnumC 0] (HA.out.ext (by repeat (first | with_reducible exact Below.refl _ _ | with_reducible assumption | ((with_reducible refine Below.setCell ?_ ?_ _); rotate_left; (simp; try omega)) | (with_reducible refine Ext.tr ?_ (by with_reducible assumption)) | (with_reducible refine Ext.al ?_ _) | (with_reducible refine below_drewN ?_ _) | (with_reducible refine Below.drew ?_))))).mono ?_; rintro e w1 ⟨⟨n1, rfl, he⟩, rfl⟩)
  unfold ElemAt at he
  (go_wp2_with fail; refine (toNumber_num x false _ HT1.out).mono ?_; rintro e w2 ⟨rfl, hb2⟩; obtain ⟨hc2, hf2, hz2⟩ := ext_facts hb2; (try simp at hz2); (have hq2_0 : w.heap.size < w2.heap.size := by omega); (have hl2_0 : w.heap.size ≤ w2.heap.size := by omega); (have hr2_0 := fun o => hc2 (w.heap.size) o (by first | omega | (simp; done) | (simp; omega))); (have hs2_0 := fun o => hf2 (w.heap.size) o (by first | omega | (simp; done) | (simp; omega))); (try simp (disch := first | omega | (simp; omega)) only [World.cell?_alloc_past, World.cell?_drew] at hr2_0); (try simp (disch := first | omega | (simp; omega)) only [World.frozen?_alloc_past, World.frozen?_drew] at hs2_0); clear hc2 hf2)
  clear he
  (go_wp2_with fail; refine (back_ok _ b B (fnumC 0) [fnumC x] (HA.out.ext (by repeat (first | with_reducible exact Below.refl _ _ | with_reducible assumption | ((with_reducible refine Below.setCell ?_ ?_ _); rotate_left; (simp; try omega)) | (with_reducible refine Ext.tr ?_ (by with_reducible assumption)) | (with_reducible refine Ext.al ?_ _) | (with_reducible refine below_drewN ?_ _) | (with_reducible refine Below.drew ?_))))).mono ?_; rintro e w1 ⟨⟨n2, rfl, he⟩, rfl⟩)
  unfold ElemAt at he
  (go_wp2_with fail; refine (toNumber_num 0 false _ tame_zero).mono ?_; rintro e w3 ⟨rfl, hb3⟩; obtain ⟨hc3, hf3, hz3⟩ := ext_facts hb3; (try simp at hz3); (have hq3_0 : w.heap.size < w3.heap.size := by omega); (have hl3_0 : w.heap.size ≤ w3.heap.size := by omega); (have hr3_0 := fun o => hc3 (w.heap.size) o (by first | omega | (simp; done) | (simp; omega))); (have hs3_0 := fun o => hf3 (w.heap.size) o (by first | omega | (simp; done) | (simp; omega))); (try simp (disch := first | omega | (simp; omega)) only [World.cell?_alloc_past, World.cell?_drew] at hr3_0); (try simp (disch := first | omega | (simp; omega)) only [World.frozen?_alloc_past, World.frozen?_drew] at hs3_0); (have hq3_1 : w2.heap.size < w3.heap.size := by omega); (have hl3_1 : w2.heap.size ≤ w3.heap.size := by omega); (have hr3_1 := fun o => hc3 (w2.heap.size) o (by first | omega | (simp; done) | (simp; omega))); (have hs3_1 := fun o => hf3 (w2.heap.size) o (by first | omega | (simp; done) | (simp; omega))); (try simp (disch := first | omega | (simp; omega)) only [World.cell?_alloc_past, World.cell?_drew] at hr3_1); (try simp (disch := first | omega | (simp; omega)) only [World.frozen?_alloc_past, World.frozen?_drew] at hs3_1); clear hc3 hf3)
  clear he
  (go_wp2_with fail; refine (newError_any _ _ _).mono ?_; rintro e w5 ⟨rfl, hb5⟩; obtain ⟨hc5, hf5, hz5⟩ := ext_facts hb5; (try simp at hz5); (have hq5_0 : w.heap.size < w5.heap.size := by omega); (have hl5_0 : w.heap.size ≤ w5.heap.size := by omega); (have hr5_0 := fun o => hc5 (w.heap.size) o (by first | omega | (simp; done) | (simp; omega))); (have hs5_0 := fun o => hf5 (w.heap.size) o (by first | omega | (simp; done) | (simp; omega))); (try simp (disch := first | omega | (simp; omega)) only [World.cell?_alloc_past, World.cell?_drew] at hr5_0); (try simp (disch := first | omega | (simp; omega)) only [World.frozen?_alloc_past, World.frozen?_drew] at hs5_0); clear hc5 hf5)
  go_wp2
  exact bodyPost_ret (v := ferr ⟨#[35, 68, 73, 86, 47, 48, 33]⟩ ⟨#[35, 68, 73, 86, 47, 48, 33]⟩) (by simp [results, Tryz.results21, go_sem, *]) rfl ⟨rfl, (by repeat (first | with_reducible exact Below.refl _ _ | with_reducible assumption | ((with_reducible refine Below.setCell ?_ ?_ _); rotate_left; (simp; try omega)) | (with_reducible refine Ext.tr ?_ (by with_reducible assumption)) | (with_reducible refine Ext.al ?_ _) | (with_reducible refine below_drewN ?_ _) | (with_reducible refine Below.drew ?_)))⟩

set_option maxHeartbeats 800000 in
theorem door_QUOTIENT (inner : Iv → Array Value) (xs : List Iv) (y : Value) (z : Iv) (b o c : Nat) (w : World) (hl : xs.length ≤ 1000000000) (hx : LieI w b o xs)
    (hin : ∀ x w', x ∈ xs → Calls Tryz.prog 42 #[x.val] w' (Gives w' (.agg (inner x))))
    (hfn : ∀ w' fb p B, ArgsAt w' p B (xs.map inner) → Calls Tryz.prog 21 #[ptr fb, ptr p] w' (Gives w' y))
    (hout : ∀ w', Calls Tryz.prog 19 #[y] w' (Gives w' z.val)) :
    Calls Tryz.prog 13 #[.slice (some ⟨b, o, none⟩) xs.length c] w (Gives w z.val) := by
  have HX := Lib.hid hx; clear hx
  have HI := Lib.hid hin; clear hin
  have HF := Lib.hid hfn; clear hfn
  have HO := Lib.hid hout; clear hout
  go_enter Tryz.func13, Tryz.ntmps13
  (go_wp2_with fail; refine (doorFuncs_any _).mono ?_; rintro e w1 ⟨⟨fb, rfl⟩, hb1⟩; obtain ⟨hc1, hf1, hz1⟩ := ext_facts hb1; (try simp at hz1); (have hq1_0 : w.heap.size < w1.heap.size := by omega); (have hl1_0 : w.heap.size ≤ w1.heap.size := by omega); (have hr1_0 := fun o => hc1 (w.heap.size) o (by first | omega | (simp; done) | (simp; omega))); (have hs1_0 := fun o => hf1 (w.heap.size) o (by first | omega | (simp; done) | (simp; omega))); (try simp (disch := first | omega | (simp; omega)) only [World.cell?_alloc_past, World.cell?_drew] at hr1_0); (try simp (disch := first | omega | (simp; omega)) only [World.frozen?_alloc_past, World.frozen?_drew] at hs1_0); clear hc1 hf1)
  (go_wp2_with fail; refine ((innerList_ok inner xs b o c _ hl (HX.out.ext (by repeat (first | with_reducible exact Below.refl _ _ | with_reducible assumption | ((with_reducible refine Below.setCell ?_ ?_ _); rotate_left; (simp; try omega)) | (with_reducible refine Ext.tr ?_ (by with_reducible assumption)) | (with_reducible refine Ext.al ?_ _) | (with_reducible refine below_drewN ?_ _) | (with_reducible refine Below.drew ?_)))) HI.out)).mono ?_; rintro e w2 ⟨p, rfl, hargs, hb2⟩; obtain ⟨hc2, hf2, hz2⟩ := ext_facts hb2; (try simp at hz2); (have hq2_0 : w.heap.size < w2.heap.size := by omega); (have hl2_0 : w.heap.size ≤ w2.heap.size := by omega); (have hr2_0 := fun o => hc2 (w.heap.size) o (by first | omega | (simp; done) | (simp; omega))); (have hs2_0 := fun o => hf2 (w.heap.size) o (by first | omega | (simp; done) | (simp; omega))); (try simp (disch := first | omega | (simp; omega)) only [World.cell?_alloc_past, World.cell?_drew] at hr2_0); (try simp (disch := first | omega | (simp; omega)) only [World.frozen?_alloc_past, World.frozen?_drew] at hs2_0); clear hc2 hf2)
  have HA := Lib.hid hargs; clear hargs
  (go_wp2_with fail; refine (HF.out w2 fb p _ HA.out).mono ?_; rintro e w3 ⟨rfl, hb3⟩; obtain ⟨hc3, hf3, hz3⟩ := ext_facts hb3; (try simp at hz3); (have hq3_0 : w.heap.size < w3.heap.size := by omega); (have hl3_0 : w.heap.size ≤ w3.heap.size := by omega); (have hr3_0 := fun o => hc3 (w.heap.size) o (by first | omega | (simp; done) | (simp; omega))); (have hs3_0 := fun o => hf3 (w.heap.size) o (by first | omega | (simp; done) | (simp; omega))); (try simp (disch := first | omega | (simp; omega)) only [World.cell?_alloc_past, World.cell?_drew] at hr3_0); (try simp (disch := first | omega | (simp; omega)) only [World.frozen?_alloc_past, World.frozen?_drew] at hs3_0); clear hc3 hf3)
  (go_wp2_with fail; refine (HO.out _).mono ?_; rintro e w4 ⟨rfl, hb4⟩; obtain ⟨hc4, hf4, hz4⟩ := ext_facts hb4; (try simp at hz4); (have hq4_0 : w.heap.size < w4.heap.size := by omega); (have hl4_0 : w.heap.size ≤ w4.heap.size := by omega); (have hr4_0 := fun o => hc4 (w.heap.size) o (by first | omega | (simp; done) | (simp; omega))); (have hs4_0 := fun o => hf4 (w.heap.size) o (by first | omega | (simp; done) | (simp; omega))); (try simp (disch := first | omega | (simp; omega)) only [World.cell?_alloc_past, World.cell?_drew] at hr4_0); (try simp (disch := first | omega | (simp; omega)) only [World.frozen?_alloc_past, World.frozen?_drew] at hs4_0); clear hc4 hf4)
  go_wp2
  exact bodyPost_ret (v := Iv.val z) (by simp [results, Tryz.results13, go_sem, *]) rfl ⟨rfl, (by repeat (first | with_reducible exact Below.refl _ _ | with_reducible assumption | ((with_reducible refine Below.setCell ?_ ?_ _); rotate_left; (simp; try omega)) | (with_reducible refine Ext.tr ?_ (by with_reducible assumption)) | (with_reducible refine Ext.al ?_ _) | (with_reducible refine below_drewN ?_ _) | (with_reducible refine Below.drew ?_)))⟩

set_option maxHeartbeats 800000 in
theorem impl_QUOTIENT (xs : List Iv) (z : Iv) (b c : Nat) (w : World) (hl : xs.length ≤ 1000000000) (hne : xs ≠ []) (hx : LieI w b 0 xs)
    (hdoor : ∀ w' b' c', LieI w' b' 0 xs → Calls Tryz.prog 13 #[.slice (some ⟨b', 0, none⟩) xs.length c'] w' (Gives w' z.val)) :
    Calls Tryz.prog 5 #[.slice (some ⟨b, 0, none⟩) xs.length c] w (Gives w z.val) := by
  have HX := Lib.hid hx; clear hx
  have HD := Lib.hid hdoor; clear hdoor
  go_enter Tryz.func5, Tryz.ntmps5
  (go_wp2_with fail; refine (in_at xs b 0 c _ hl (HX.out.ext (by repeat (first | with_reducible exact Below.refl _ _ | with_reducible assumption | ((with_reducible refine Below.setCell ?_ ?_ _); rotate_left; (simp; try omega)) | (with_reducible refine Ext.tr ?_ (by with_reducible assumption)) | (with_reducible refine Ext.al ?_ _) | (with_reducible refine below_drewN ?_ _) | (with_reducible refine Below.drew ?_)))) hne).mono ?_; rintro e w1 ⟨b1, c1, rfl, hlie, hb1⟩; obtain ⟨hc1, hf1, hz1⟩ := ext_facts hb1; (try simp at hz1); (have hq1_0 : w.heap.size < w1.heap.size := by omega); (have hl1_0 : w.heap.size ≤ w1.heap.size := by omega); (have hr1_0 := fun o => hc1 (w.heap.size) o (by first | omega | (simp; done) | (simp; omega))); (have hs1_0 := fun o => hf1 (w.heap.size) o (by first | omega | (simp; done) | (simp; omega))); (try simp (disch := first | omega | (simp; omega)) only [World.cell?_alloc_past, World.cell?_drew] at hr1_0); (try simp (disch := first | omega | (simp; omega)) only [World.frozen?_alloc_past, World.frozen?_drew] at hs1_0); clear hc1 hf1)
  have HL := Lib.hid hlie; clear hlie
  (go_wp2_with fail; refine (HD.out _ b1 c1 HL.out).mono ?_; rintro e w2 ⟨rfl, hb2⟩; obtain ⟨hc2, hf2, hz2⟩ := ext_facts hb2; (try simp at hz2); (have hq2_0 : w.heap.size < w2.heap.size := by omega); (have hl2_0 : w.heap.size ≤ w2.heap.size := by omega); (have hr2_0 := fun o => hc2 (w.heap.size) o (by first | omega | (simp; done) | (simp; omega))); (have hs2_0 := fun o => hf2 (w.heap.size) o (by first | omega | (simp; done) | (simp; omega))); (try simp (disch := first | omega | (simp; omega)) only [World.cell?_alloc_past, World.cell?_drew] at hr2_0); (try simp (disch := first | omega | (simp; omega)) only [World.frozen?_alloc_past, World.frozen?_drew] at hs2_0); clear hc2 hf2)
  (go_wp2_with fail; refine (out_ok z _).mono ?_; rintro e w3 ⟨rfl, hb3⟩; obtain ⟨hc3, hf3, hz3⟩ := ext_facts hb3; (try simp at hz3); (have hq3_0 : w.heap.size < w3.heap.size := by omega); (have hl3_0 : w.heap.size ≤ w3.heap.size := by omega); (have hr3_0 := fun o => hc3 (w.heap.size) o (by first | omega | (simp; done) | (simp; omega))); (have hs3_0 := fun o => hf3 (w.heap.size) o (by first | omega | (simp; done) | (simp; omega))); (try simp (disch := first | omega | (simp; omega)) only [World.cell?_alloc_past, World.cell?_drew] at hr3_0); (try simp (disch := first | omega | (simp; omega)) only [World.frozen?_alloc_past, World.frozen?_drew] at hs3_0); clear hc3 hf3)
  go_wp2
  exact bodyPost_ret (v := Iv.val z) (by simp [results, Tryz.results5, go_sem, *]) rfl ⟨rfl, (by repeat (first | with_reducible exact Below.refl _ _ | with_reducible assumption | ((with_reducible refine Below.setCell ?_ ?_ _); rotate_left; (simp; try omega)) | (with_reducible refine Ext.tr ?_ (by with_reducible assumption)) | (with_reducible refine Ext.al ?_ _) | (with_reducible refine below_drewN ?_ _) | (with_reducible refine Below.drew ?_)))⟩

theorem pack_QUOTIENT (a1 a2 : Nat) (y : Value) (z : Iv) (t1 : Tame a1) (t2 : Tame a2) (b c : Nat) (w : World) (hx : LieI w b 0 [ivn a1, ivn a2])
    (hfn : ∀ w' fb p B, ArgsAt w' p B [fnumC a1, fnumC a2] → Calls Tryz.prog 21 #[ptr fb, ptr p] w' (Gives w' y))
    (hout : ∀ w', Calls Tryz.prog 19 #[y] w' (Gives w' z.val)) :
    Calls Tryz.prog 5 #[.slice (some ⟨b, 0, none⟩) 2 c] w (Gives w z.val) := by
  refine impl_QUOTIENT [ivn a1, ivn a2] z b c w (by simp) (by simp) hx fun w2 b2 c2 hl2 => ?_
  refine door_QUOTIENT (fun x => fnumC x.f) [ivn a1, ivn a2] y z b2 0 c2 w2 (by simp) hl2 (fun u w3 hu => inner_ivn u _ ?_ w3 hu) hfn hout
  intro v hv
  rcases List.mem_cons.1 hv with rfl | hv
  · exact ⟨rfl, t1⟩
  · have e : v = ivn a2 := by simpa using hv
    subst e; exact ⟨rfl, t2⟩
end Go.Proofs.YtpibjonfkkiliaaGreatDoor
