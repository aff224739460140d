/-
  ODD of the package.
-/
import Derived.Test.YtobidgofiogndaaGreatDoorNum
import Derived.Test.YtobidgofiogndaaGreatDoorTru
import Derived.Test.YtobidgofiogndaaGreatDoorTo
import Derived.Test.YtobidgofiogndaaGreatDoorOdd
namespace Go.Proofs.YtobidgofiogndaaGreatDoor
set_option linter.unusedSimpArgs false
set_option linter.unusedVariables false
open Go Go.RowKit
set_option maxRecDepth 100000

@[go_sem] theorem bitsOf (x : Nat) (w : World) : (callFunc 114 #[.float .f64 x]).run Tryz.prog w = .ok (.value (.int .u64 x)) w := by kernel_rfl
@[go_sem] theorem bitsFrom (n : Int) (w : World) : (callFunc 205 #[.int .u64 n]).run Tryz.prog w = .ok (.value (.float .f64 n.toNat)) w := by kernel_rfl

set_option maxHeartbeats 800000 in
theorem copysign_bits (x y : Nat) (w : World) : Calls Tryz.prog 116 #[.float .f64 x, .float .f64 y] w (Gives w (.float .f64 (bits .or .u64 (bits .andNot .u64 x 9223372036854775808) (bits .and .u64 y 9223372036854775808)).toNat)) := by
  go_enter Tryz.func116, Tryz.ntmps116
  go_wp2
  go_ret
  exact ⟨rfl, (by repeat (first | with_reducible exact Below.refl _ _ | with_reducible assumption | ((with_reducible refine Below.setCell ?_ ?_ _); rotate_left; (simp; try omega)) | (with_reducible refine Ext.tr ?_ (by with_reducible assumption)) | (with_reducible refine Ext.al ?_ _) | (with_reducible refine below_drewN ?_ _) | (with_reducible refine Below.drew ?_)))⟩

theorem copysign_ok {neg neg' : Bool} {r r' : Nat} (h : r < 2 ^ 63) (h' : r' < 2 ^ 63) (w : World) :
    Calls Tryz.prog 116 #[.float .f64 (Ieee.double.word neg r), .float .f64 (Ieee.double.word neg' r')] w (Gives w (.float .f64 (Ieee.double.word neg' r))) := by
  have := copysign_bits (Ieee.double.word neg r) (Ieee.double.word neg' r') w
  rwa [Fl.copysign_word h h'] at this

set_option maxHeartbeats 800000 in
theorem signbit_bits (x : Nat) (w : World) : Calls Tryz.prog 38 #[.float .f64 x] w (Gives w (.bool (decide (wrap64 (x : Int) < 0)))) := by
  go_enter Tryz.func38, Tryz.ntmps38
  go_wp2
  go_ret
  exact ⟨rfl, (by repeat (first | with_reducible exact Below.refl _ _ | with_reducible assumption | ((with_reducible refine Below.setCell ?_ ?_ _); rotate_left; (simp; try omega)) | (with_reducible refine Ext.tr ?_ (by with_reducible assumption)) | (with_reducible refine Ext.al ?_ _) | (with_reducible refine below_drewN ?_ _) | (with_reducible refine Below.drew ?_)))⟩

theorem signbit_ok {neg : Bool} {r : Nat} (h : r < 2 ^ 63) (w : World) : Calls Tryz.prog 38 #[.float .f64 (Ieee.double.word neg r)] w (Gives w (.bool neg)) := by
  have hb := signbit_bits (Ieee.double.word neg r) w
  have hd : decide (wrap64 ((Ieee.double.word neg r : Nat) : Int) < 0) = neg := by
    unfold wrap64 Ieee.Format.word
    rw [Fl.signWeight_eq]
    cases neg
    · rw [if_neg (by decide), decide_eq_false]; omega
    · rw [if_pos rfl, decide_eq_true]; omega
  rwa [hd] at hb

set_option maxHeartbeats 800000 in
theorem modf_of (x y z v : Nat) (w : World) (h1 : ∀ w', Calls Tryz.prog 115 #[.float .f64 x] w' (Gives w' (.float .f64 y))) (h2 : FloatKind.f64.format.sub x y = some z)
    (h3 : ∀ w', Calls Tryz.prog 116 #[.float .f64 z, .float .f64 x] w' (Gives w' (.float .f64 v))) :
    Calls Tryz.prog 39 #[.float .f64 x] w (Gives w (.tuple #[.float .f64 y, .float .f64 v])) := by
  have H1 := Lib.hid h1; clear h1
  have H3 := Lib.hid h3; clear h3
  have h2' := fun w => run_float_arith (P := Tryz.prog) w .sub 34 .f64 x y z h2
  clear h2
  go_enter Tryz.func39, Tryz.ntmps39
  (go_wp2_with fail; refine (H1.out _).mono ?_; rintro e w1 ⟨rfl, hb1⟩; obtain ⟨hc1, hf1, hz1⟩ := ext_facts hb1; (try simp at hz1); clear hc1 hf1)
  (go_wp2_with fail; refine (H3.out _).mono ?_; rintro e w2 ⟨rfl, hb2⟩; obtain ⟨hc2, hf2, hz2⟩ := ext_facts hb2; (try simp at hz2); clear hc2 hf2)
  go_wp2
  go_ret2
  exact ⟨rfl, (by repeat (first | with_reducible exact Below.refl _ _ | with_reducible assumption | ((with_reducible refine Below.setCell ?_ ?_ _); rotate_left; (simp; try omega)) | (with_reducible refine Ext.tr ?_ (by with_reducible assumption)) | (with_reducible refine Ext.al ?_ _) | (with_reducible refine below_drewN ?_ _) | (with_reducible refine Below.drew ?_)))⟩

/-- The words of a half and what is left of it. -/
theorem modf_half {k : Int} (h0 : k ≠ -1) (h3 : k.natAbs < 2 ^ 50) :
    ∃ v : Nat, (FloatKind.f64.format.order v 0 == some Ordering.eq) = decide (k.tmod 2 = 0) ∧
      ∀ w, Calls Tryz.prog 39 #[.float .f64 (Fl.fx (-1) k)] w (Gives w (.tuple #[.float .f64 (Fl.fx 0 (k.tdiv 2)), .float .f64 v])) := by
  have h5 := Int.tmod_lt_of_pos k (show (0 : Int) < 2 by decide)
  have h4 := Int.lt_tmod_of_pos k (show (0 : Int) < 2 by decide)
  have hb1 := Fl.nearest_lt (m := k.natAbs) (p := -1) (by omega) (by omega) (by omega)
  have hb2 := Fl.nearest_lt (m := (k.tmod 2).natAbs) (p := -1) (by omega) (by omega) (by omega)
  refine ⟨Ieee.double.word (decide (k < 0)) (Ieee.double.nearest false (k.tmod 2).natAbs (-1)), Fl.half_word _ (by omega) (by omega), fun w => ?_⟩
  have hcp := fun w' => copysign_ok (neg := decide (k.tmod 2 < 0)) (neg' := decide (k < 0)) hb2 hb1 w'
  rw [← Fl.fx_word, ← Fl.fx_word] at hcp
  by_cases h2 : 2 ≤ k.natAbs
  · obtain ⟨m, e, hw, a1, a2, a3, a4, a5⟩ := Fl.half_bits h2 h3
    have hab : (k.tdiv 2).natAbs = k.natAbs / 2 := Int.natAbs_tdiv k 2
    refine modf_of _ _ _ _ w (fun w' => ?_) (Fl.half_rest h3 (by omega)) hcp
    have ht := Trunc_bits (s := decide (k < 0)) w' a1 a2 (by omega) a4
    rw [if_pos a3, Fl.half_whole h2 a5, ← hw] at ht
    exact ht
  · have hk : k = 0 ∨ k = 1 := by omega
    refine modf_of _ _ (Fl.fx (-1) (k.tmod 2)) _ w (fun w' => ?_) ?_ hcp
    · rcases hk with rfl | rfl
      · have ht := Trunc_nought false w'
        rw [show Ieee.double.word false 0 = 0 by decide] at ht
        rw [show Fl.fx (-1) 0 = 0 by decide, show Fl.fx 0 ((0 : Int).tdiv 2) = 0 by decide]
        exact ht
      · have ht := Trunc_bits (s := false) (m := 2 ^ 52) (e := -53) w' (by decide) (by decide) (by decide) (by decide)
        rw [if_neg (by decide), nearest_nought, show Ieee.double.word false 0 = 0 by decide, show Fl.bits false (2 ^ 52) (-53) = 4602678819172646912 by decide] at ht
        rw [show Fl.fx (-1) 1 = 4602678819172646912 by decide +kernel, show Fl.fx 0 ((1 : Int).tdiv 2) = 0 by decide +kernel]
        exact ht
    · rcases hk with rfl | rfl <;> decide +kernel

theorem half_word_of {n : Int} (h1 : -99999999999 ≤ n) (h2 : n ≤ 99999999999) : FloatKind.f64.format.sub (Fl.fx 0 n) 4607182418800017408 = some (Fl.fx 0 (n - 1)) ∧ FloatKind.f64.format.div (Fl.fx 0 (n - 1)) 4611686018427387904 = some (Fl.fx (-1) (n - 1)) := by
  have e1 : (4607182418800017408 : Nat) = Fl.fx 0 1 := by decide
  have e2 : (4611686018427387904 : Nat) = Fl.fx 0 2 := by decide
  refine ⟨?_, ?_⟩
  · rw [e1]; exact Fl.sub_fx (by omega) (by omega) (by omega) (by omega) (by omega) (by omega) (by omega) (by omega) (by omega)
  · rw [e2]; exact Fl.div_pow (n := n - 1) (k := 1) (by omega) (by omega) (by omega)

theorem zero_eq {m : Int} (h0 : m ≠ 0) (h1 : -2 ^ 53 < m) (h2 : m < 2 ^ 53) : (FloatKind.f64.format.order (Fl.fx 0 m) 0 == some Ordering.eq) = false := by
  have h := order_fx0 (a := m) (b := 0) h1 h2 (by omega) (by omega)
  rw [show Fl.fx 0 0 = 0 by decide] at h
  rw [h]
  rcases (show m < 0 ∨ 0 < m by omega) with h | h
  · rw [cmp_lt h]; rfl
  · rw [cmp_gt h]; rfl

set_option maxHeartbeats 1600000 in
theorem odd_zero (fb b B : Nat) (w : World) (ha : ArgsAt w b B [fnumC 0]) :
    Calls Tryz.prog 21 #[ptr fb, ptr b] w (Gives w (fnum 4607182418800017408)) := by
  have HA := Lib.hid ha; clear ha
  go_enter Tryz.func21, Tryz.ntmps21
  (go_wp2_with fail; refine (len_ok _ b B _ (HA.out.ext (by repeat (first | with_reducible exact Below.refl _ _ | with_reducible assumption | ((with_reducible refine Below.setCell ?_ ?_ _); rotate_left; (simp; try omega)) | (with_reducible refine Ext.tr ?_ (by with_reducible assumption)) | (with_reducible refine Ext.al ?_ _) | (with_reducible refine below_drewN ?_ _) | (with_reducible refine Below.drew ?_))))).mono ?_; rintro e w1 ⟨rfl, rfl⟩)
  (go_wp2_with fail; refine (back_ok _ b B (fnumC 0) [] (HA.out.ext (by repeat (first | with_reducible exact Below.refl _ _ | with_reducible assumption | ((with_reducible refine Below.setCell ?_ ?_ _); rotate_left; (simp; try omega)) | (with_reducible refine Ext.tr ?_ (by with_reducible assumption)) | (with_reducible refine Ext.al ?_ _) | (with_reducible refine below_drewN ?_ _) | (with_reducible refine Below.drew ?_))))).mono ?_; rintro e w1 ⟨⟨n1, rfl, he⟩, rfl⟩)
  unfold ElemAt at he
  (go_wp2_with fail; refine (toNumber_num 0 false _ tame_zero).mono ?_; rintro e w2 ⟨rfl, hb2⟩; obtain ⟨hc2, hf2, hz2⟩ := ext_facts hb2; (try simp at hz2); (have hq2_0 : w.heap.size < w2.heap.size := by omega); (have hl2_0 : w.heap.size ≤ w2.heap.size := by omega); (have hr2_0 := fun o => hc2 (w.heap.size) o (by first | omega | (simp; done) | (simp; omega))); (have hs2_0 := fun o => hf2 (w.heap.size) o (by first | omega | (simp; done) | (simp; omega))); (try simp (disch := first | omega | (simp; omega)) only [World.cell?_alloc_past, World.cell?_drew] at hr2_0); (try simp (disch := first | omega | (simp; omega)) only [World.frozen?_alloc_past, World.frozen?_drew] at hs2_0); clear hc2 hf2)
  clear he
  (go_wp2_with fail; refine (newNumber_ok _ _ tame_one).mono ?_; rintro e w3 ⟨rfl, hb3⟩; obtain ⟨hc3, hf3, hz3⟩ := ext_facts hb3; (try simp at hz3); (have hq3_0 : w.heap.size < w3.heap.size := by omega); (have hl3_0 : w.heap.size ≤ w3.heap.size := by omega); (have hr3_0 := fun o => hc3 (w.heap.size) o (by first | omega | (simp; done) | (simp; omega))); (have hs3_0 := fun o => hf3 (w.heap.size) o (by first | omega | (simp; done) | (simp; omega))); (try simp (disch := first | omega | (simp; omega)) only [World.cell?_alloc_past, World.cell?_drew] at hr3_0); (try simp (disch := first | omega | (simp; omega)) only [World.frozen?_alloc_past, World.frozen?_drew] at hs3_0); clear hc3 hf3)
  go_wp2
  exact bodyPost_ret (v := fnum 4607182418800017408) (by simp [results, Tryz.results21, go_sem, *]) rfl ⟨rfl, (by repeat (first | with_reducible exact Below.refl _ _ | with_reducible assumption | ((with_reducible refine Below.setCell ?_ ?_ _); rotate_left; (simp; try omega)) | (with_reducible refine Ext.tr ?_ (by with_reducible assumption)) | (with_reducible refine Ext.al ?_ _) | (with_reducible refine below_drewN ?_ _) | (with_reducible refine Below.drew ?_)))⟩

set_option maxHeartbeats 1600000 in
/-- ODD where the number is odd, or even and positive, or even and negative: what is added behind the point. -/
theorem odd_walk (x h1 h2 t v d s r : Nat) (sg fr : Bool) (fb b B : Nat) (w : World) (ht : Tame x) (hr : Tame r) (hz : (FloatKind.f64.format.order x 0 == some Ordering.eq) = false)
    (hs : ∀ w', Calls Tryz.prog 38 #[.float .f64 x] w' (Gives w' (.bool sg)))
    (e1 : FloatKind.f64.format.sub x 4607182418800017408 = some h1) (e2 : FloatKind.f64.format.div h1 4611686018427387904 = some h2)
    (hm : ∀ w', Calls Tryz.prog 39 #[.float .f64 h2] w' (Gives w' (.tuple #[.float .f64 t, .float .f64 v])))
    (hv : (FloatKind.f64.format.order v 0 == some Ordering.eq) = fr)
    (e3 : FloatKind.f64.format.mul t 4611686018427387904 = some d) (e4 : FloatKind.f64.format.add d 4607182418800017408 = some s)
    (e5 : fr = true → r = s) (e6 : fr = false → sg = false → FloatKind.f64.format.add s 4611686018427387904 = some r) (e7 : fr = false → sg = true → FloatKind.f64.format.sub s 4611686018427387904 = some r)
    (ha : ArgsAt w b B [fnumC x]) :
    Calls Tryz.prog 21 #[ptr fb, ptr b] w (Gives w (fnum r)) := by
  have HA := Lib.hid ha; clear ha
  have HT := Lib.hid ht; clear ht
  have HR := Lib.hid hr; clear hr
  have HS := Lib.hid hs; clear hs
  have HM := Lib.hid hm; clear hm
  have a1 := fun w => run_float_arith (P := Tryz.prog) w .sub 34 .f64 x 4607182418800017408 h1 e1
  have a2 := fun w => run_float_arith (P := Tryz.prog) w .quo 34 .f64 h1 4611686018427387904 h2 e2
  have a3 := fun w => run_float_arith (P := Tryz.prog) w .mul 34 .f64 t 4611686018427387904 d e3
  have a4 := fun w => run_float_arith (P := Tryz.prog) w .add 34 .f64 d 4607182418800017408 s e4
  clear e1 e2 e3 e4
  cases fr
  · have hv2 : (FloatKind.f64.format.order v 0 != some Ordering.eq) = true := by rw [bne, hv]; rfl
    cases sg
    · have e6' := fun w => run_float_arith (P := Tryz.prog) w .add 34 .f64 s 4611686018427387904 r (e6 rfl rfl)
      clear e5 e6 e7
      go_enter Tryz.func21, Tryz.ntmps21
      (go_wp2_with fail; refine (len_ok _ b B _ (HA.out.ext (by repeat (first | with_reducible exact Below.refl _ _ | with_reducible assumption | ((with_reducible refine Below.setCell ?_ ?_ _); rotate_left; (simp; try omega)) | (with_reducible refine Ext.tr ?_ (by with_reducible assumption)) | (with_reducible refine Ext.al ?_ _) | (with_reducible refine below_drewN ?_ _) | (with_reducible refine Below.drew ?_))))).mono ?_; rintro e w1 ⟨rfl, rfl⟩)
      (go_wp2_with fail; refine (back_ok _ b B (fnumC x) [] (HA.out.ext (by repeat (first | with_reducible exact Below.refl _ _ | with_reducible assumption | ((with_reducible refine Below.setCell ?_ ?_ _); rotate_left; (simp; try omega)) | (with_reducible refine Ext.tr ?_ (by with_reducible assumption)) | (with_reducible refine Ext.al ?_ _) | (with_reducible refine below_drewN ?_ _) | (with_reducible refine Below.drew ?_))))).mono ?_; rintro e w1 ⟨⟨n1, rfl, he⟩, rfl⟩)
      unfold ElemAt at he
      (go_wp2_with fail; refine (toNumber_num x false _ HT.out).mono ?_; rintro e w2 ⟨rfl, hb2⟩; obtain ⟨hc2, hf2, hz2⟩ := ext_facts hb2; (try simp at hz2); (have hq2_0 : w.heap.size < w2.heap.size := by omega); (have hl2_0 : w.heap.size ≤ w2.heap.size := by omega); (have hr2_0 := fun o => hc2 (w.heap.size) o (by first | omega | (simp; done) | (simp; omega))); (have hs2_0 := fun o => hf2 (w.heap.size) o (by first | omega | (simp; done) | (simp; omega))); (try simp (disch := first | omega | (simp; omega)) only [World.cell?_alloc_past, World.cell?_drew] at hr2_0); (try simp (disch := first | omega | (simp; omega)) only [World.frozen?_alloc_past, World.frozen?_drew] at hs2_0); clear hc2 hf2)
      clear he
      (go_wp2_with fail; refine (HS.out _).mono ?_; rintro e w3 ⟨rfl, hb3⟩; obtain ⟨hc3, hf3, hz3⟩ := ext_facts hb3; (try simp at hz3); (have hq3_0 : w.heap.size < w3.heap.size := by omega); (have hl3_0 : w.heap.size ≤ w3.heap.size := by omega); (have hr3_0 := fun o => hc3 (w.heap.size) o (by first | omega | (simp; done) | (simp; omega))); (have hs3_0 := fun o => hf3 (w.heap.size) o (by first | omega | (simp; done) | (simp; omega))); (try simp (disch := first | omega | (simp; omega)) only [World.cell?_alloc_past, World.cell?_drew] at hr3_0); (try simp (disch := first | omega | (simp; omega)) only [World.frozen?_alloc_past, World.frozen?_drew] at hs3_0); (have hq3_1 : w2.heap.size < w3.heap.size := by omega); (have hl3_1 : w2.heap.size ≤ w3.heap.size := by omega); (have hr3_1 := fun o => hc3 (w2.heap.size) o (by first | omega | (simp; done) | (simp; omega))); (have hs3_1 := fun o => hf3 (w2.heap.size) o (by first | omega | (simp; done) | (simp; omega))); (try simp (disch := first | omega | (simp; omega)) only [World.cell?_alloc_past, World.cell?_drew] at hr3_1); (try simp (disch := first | omega | (simp; omega)) only [World.frozen?_alloc_past, World.frozen?_drew] at hs3_1); clear hc3 hf3)
      (go_wp2_with fail; refine (HM.out _).mono ?_; rintro e w4 ⟨rfl, hb4⟩; obtain ⟨hc4, hf4, hz4⟩ := ext_facts hb4; (try simp at hz4); (have hq4_0 : w.heap.size < w4.heap.size := by omega); (have hl4_0 : w.heap.size ≤ w4.heap.size := by omega); (have hr4_0 := fun o => hc4 (w.heap.size) o (by first | omega | (simp; done) | (simp; omega))); (have hs4_0 := fun o => hf4 (w.heap.size) o (by first | omega | (simp; done) | (simp; omega))); (try simp (disch := first | omega | (simp; omega)) only [World.cell?_alloc_past, World.cell?_drew] at hr4_0); (try simp (disch := first | omega | (simp; omega)) only [World.frozen?_alloc_past, World.frozen?_drew] at hs4_0); (have hq4_1 : w2.heap.size < w4.heap.size := by omega); (have hl4_1 : w2.heap.size ≤ w4.heap.size := by omega); (have hr4_1 := fun o => hc4 (w2.heap.size) o (by first | omega | (simp; done) | (simp; omega))); (have hs4_1 := fun o => hf4 (w2.heap.size) o (by first | omega | (simp; done) | (simp; omega))); (try simp (disch := first | omega | (simp; omega)) only [World.cell?_alloc_past, World.cell?_drew] at hr4_1); (try simp (disch := first | omega | (simp; omega)) only [World.frozen?_alloc_past, World.frozen?_drew] at hs4_1); clear hc4 hf4)
      (go_wp2_with fail; refine (newNumber_ok _ _ HR.out).mono ?_; rintro e w5 ⟨rfl, hb5⟩; obtain ⟨hc5, hf5, hz5⟩ := ext_facts hb5; (try simp at hz5); (have hq5_0 : w.heap.size < w5.heap.size := by omega); (have hl5_0 : w.heap.size ≤ w5.heap.size := by omega); (have hr5_0 := fun o => hc5 (w.heap.size) o (by first | omega | (simp; done) | (simp; omega))); (have hs5_0 := fun o => hf5 (w.heap.size) o (by first | omega | (simp; done) | (simp; omega))); (try simp (disch := first | omega | (simp; omega)) only [World.cell?_alloc_past, World.cell?_drew] at hr5_0); (try simp (disch := first | omega | (simp; omega)) only [World.frozen?_alloc_past, World.frozen?_drew] at hs5_0); clear hc5 hf5)
      go_wp2
      exact bodyPost_ret (v := fnum r) (by simp [results, Tryz.results21, go_sem, *]) rfl ⟨rfl, (by repeat (first | with_reducible exact Below.refl _ _ | with_reducible assumption | ((with_reducible refine Below.setCell ?_ ?_ _); rotate_left; (simp; try omega)) | (with_reducible refine Ext.tr ?_ (by with_reducible assumption)) | (with_reducible refine Ext.al ?_ _) | (with_reducible refine below_drewN ?_ _) | (with_reducible refine Below.drew ?_)))⟩
    · have e7' := fun w => run_float_arith (P := Tryz.prog) w .sub 34 .f64 s 4611686018427387904 r (e7 rfl rfl)
      clear e5 e6 e7
      go_enter Tryz.func21, Tryz.ntmps21
      (go_wp2_with fail; refine (len_ok _ b B _ (HA.out.ext (by repeat (first | with_reducible exact Below.refl _ _ | with_reducible assumption | ((with_reducible refine Below.setCell ?_ ?_ _); rotate_left; (simp; try omega)) | (with_reducible refine Ext.tr ?_ (by with_reducible assumption)) | (with_reducible refine Ext.al ?_ _) | (with_reducible refine below_drewN ?_ _) | (with_reducible refine Below.drew ?_))))).mono ?_; rintro e w1 ⟨rfl, rfl⟩)
      (go_wp2_with fail; refine (back_ok _ b B (fnumC x) [] (HA.out.ext (by repeat (first | with_reducible exact Below.refl _ _ | with_reducible assumption | ((with_reducible refine Below.setCell ?_ ?_ _); rotate_left; (simp; try omega)) | (with_reducible refine Ext.tr ?_ (by with_reducible assumption)) | (with_reducible refine Ext.al ?_ _) | (with_reducible refine below_drewN ?_ _) | (with_reducible refine Below.drew ?_))))).mono ?_; rintro e w1 ⟨⟨n1, rfl, he⟩, rfl⟩)
      unfold ElemAt at he
      (go_wp2_with fail; refine (toNumber_num x false _ HT.out).mono ?_; rintro e w2 ⟨rfl, hb2⟩; obtain ⟨hc2, hf2, hz2⟩ := ext_facts hb2; (try simp at hz2); (have hq2_0 : w.heap.size < w2.heap.size := by omega); (have hl2_0 : w.heap.size ≤ w2.heap.size := by omega); (have hr2_0 := fun o => hc2 (w.heap.size) o (by first | omega | (simp; done) | (simp; omega))); (have hs2_0 := fun o => hf2 (w.heap.size) o (by first | omega | (simp; done) | (simp; omega))); (try simp (disch := first | omega | (simp; omega)) only [World.cell?_alloc_past, World.cell?_drew] at hr2_0); (try simp (disch := first | omega | (simp; omega)) only [World.frozen?_alloc_past, World.frozen?_drew] at hs2_0); clear hc2 hf2)
      clear he
      (go_wp2_with fail; refine (HS.out _).mono ?_; rintro e w3 ⟨rfl, hb3⟩; obtain ⟨hc3, hf3, hz3⟩ := ext_facts hb3; (try simp at hz3); (have hq3_0 : w.heap.size < w3.heap.size := by omega); (have hl3_0 : w.heap.size ≤ w3.heap.size := by omega); (have hr3_0 := fun o => hc3 (w.heap.size) o (by first | omega | (simp; done) | (simp; omega))); (have hs3_0 := fun o => hf3 (w.heap.size) o (by first | omega | (simp; done) | (simp; omega))); (try simp (disch := first | omega | (simp; omega)) only [World.cell?_alloc_past, World.cell?_drew] at hr3_0); (try simp (disch := first | omega | (simp; omega)) only [World.frozen?_alloc_past, World.frozen?_drew] at hs3_0); (have hq3_1 : w2.heap.size < w3.heap.size := by omega); (have hl3_1 : w2.heap.size ≤ w3.heap.size := by omega); (have hr3_1 := fun o => hc3 (w2.heap.size) o (by first | omega | (simp; done) | (simp; omega))); (have hs3_1 := fun o => hf3 (w2.heap.size) o (by first | omega | (simp; done) | (simp; omega))); (try simp (disch := first | omega | (simp; omega)) only [World.cell?_alloc_past, World.cell?_drew] at hr3_1); (try simp (disch := first | omega | (simp; omega)) only [World.frozen?_alloc_past, World.frozen?_drew] at hs3_1); clear hc3 hf3)
      (go_wp2_with fail; refine (HM.out _).mono ?_; rintro e w4 ⟨rfl, hb4⟩; obtain ⟨hc4, hf4, hz4⟩ := ext_facts hb4; (try simp at hz4); (have hq4_0 : w.heap.size < w4.heap.size := by omega); (have hl4_0 : w.heap.size ≤ w4.heap.size := by omega); (have hr4_0 := fun o => hc4 (w.heap.size) o (by first | omega | (simp; done) | (simp; omega))); (have hs4_0 := fun o => hf4 (w.heap.size) o (by first | omega | (simp; done) | (simp; omega))); (try simp (disch := first | omega | (simp; omega)) only [World.cell?_alloc_past, World.cell?_drew] at hr4_0); (try simp (disch := first | omega | (simp; omega)) only [World.frozen?_alloc_past, World.frozen?_drew] at hs4_0); (have hq4_1 : w2.heap.size < w4.heap.size := by omega); (have hl4_1 : w2.heap.size ≤ w4.heap.size := by omega); (have hr4_1 := fun o => hc4 (w2.heap.size) o (by first | omega | (simp; done) | (simp; omega))); (have hs4_1 := fun o => hf4 (w2.heap.size) o (by first | omega | (simp; done) | (simp; omega))); (try simp (disch := first | omega | (simp; omega)) only [World.cell?_alloc_past, World.cell?_drew] at hr4_1); (try simp (disch := first | omega | (simp; omega)) only [World.frozen?_alloc_past, World.frozen?_drew] at hs4_1); clear hc4 hf4)
      (go_wp2_with fail; refine (newNumber_ok _ _ HR.out).mono ?_; rintro e w5 ⟨rfl, hb5⟩; obtain ⟨hc5, hf5, hz5⟩ := ext_facts hb5; (try simp at hz5); (have hq5_0 : w.heap.size < w5.heap.size := by omega); (have hl5_0 : w.heap.size ≤ w5.heap.size := by omega); (have hr5_0 := fun o => hc5 (w.heap.size) o (by first | omega | (simp; done) | (simp; omega))); (have hs5_0 := fun o => hf5 (w.heap.size) o (by first | omega | (simp; done) | (simp; omega))); (try simp (disch := first | omega | (simp; omega)) only [World.cell?_alloc_past, World.cell?_drew] at hr5_0); (try simp (disch := first | omega | (simp; omega)) only [World.frozen?_alloc_past, World.frozen?_drew] at hs5_0); clear hc5 hf5)
      go_wp2
      exact bodyPost_ret (v := fnum r) (by simp [results, Tryz.results21, go_sem, *]) rfl ⟨rfl, (by repeat (first | with_reducible exact Below.refl _ _ | with_reducible assumption | ((with_reducible refine Below.setCell ?_ ?_ _); rotate_left; (simp; try omega)) | (with_reducible refine Ext.tr ?_ (by with_reducible assumption)) | (with_reducible refine Ext.al ?_ _) | (with_reducible refine below_drewN ?_ _) | (with_reducible refine Below.drew ?_)))⟩
  · have hv2 : (FloatKind.f64.format.order v 0 != some Ordering.eq) = false := by rw [bne, hv]; rfl
    have e5' := e5 rfl
    subst e5'
    clear e5 e6 e7
    go_enter Tryz.func21, Tryz.ntmps21
    (go_wp2_with fail; refine (len_ok _ b B _ (HA.out.ext (by repeat (first | with_reducible exact Below.refl _ _ | with_reducible assumption | ((with_reducible refine Below.setCell ?_ ?_ _); rotate_left; (simp; try omega)) | (with_reducible refine Ext.tr ?_ (by with_reducible assumption)) | (with_reducible refine Ext.al ?_ _) | (with_reducible refine below_drewN ?_ _) | (with_reducible refine Below.drew ?_))))).mono ?_; rintro e w1 ⟨rfl, rfl⟩)
    (go_wp2_with fail; refine (back_ok _ b B (fnumC x) [] (HA.out.ext (by repeat (first | with_reducible exact Below.refl _ _ | with_reducible assumption | ((with_reducible refine Below.setCell ?_ ?_ _); rotate_left; (simp; try omega)) | (with_reducible refine Ext.tr ?_ (by with_reducible assumption)) | (with_reducible refine Ext.al ?_ _) | (with_reducible refine below_drewN ?_ _) | (with_reducible refine Below.drew ?_))))).mono ?_; rintro e w1 ⟨⟨n1, rfl, he⟩, rfl⟩)
    unfold ElemAt at he
    (go_wp2_with fail; refine (toNumber_num x false _ HT.out).mono ?_; rintro e w2 ⟨rfl, hb2⟩; obtain ⟨hc2, hf2, hz2⟩ := ext_facts hb2; (try simp at hz2); (have hq2_0 : w.heap.size < w2.heap.size := by omega); (have hl2_0 : w.heap.size ≤ w2.heap.size := by omega); (have hr2_0 := fun o => hc2 (w.heap.size) o (by first | omega | (simp; done) | (simp; omega))); (have hs2_0 := fun o => hf2 (w.heap.size) o (by first | omega | (simp; done) | (simp; omega))); (try simp (disch := first | omega | (simp; omega)) only [World.cell?_alloc_past, World.cell?_drew] at hr2_0); (try simp (disch := first | omega | (simp; omega)) only [World.frozen?_alloc_past, World.frozen?_drew] at hs2_0); clear hc2 hf2)
    clear he
    (go_wp2_with fail; refine (HS.out _).mono ?_; rintro e w3 ⟨rfl, hb3⟩; obtain ⟨hc3, hf3, hz3⟩ := ext_facts hb3; (try simp at hz3); (have hq3_0 : w.heap.size < w3.heap.size := by omega); (have hl3_0 : w.heap.size ≤ w3.heap.size := by omega); (have hr3_0 := fun o => hc3 (w.heap.size) o (by first | omega | (simp; done) | (simp; omega))); (have hs3_0 := fun o => hf3 (w.heap.size) o (by first | omega | (simp; done) | (simp; omega))); (try simp (disch := first | omega | (simp; omega)) only [World.cell?_alloc_past, World.cell?_drew] at hr3_0); (try simp (disch := first | omega | (simp; omega)) only [World.frozen?_alloc_past, World.frozen?_drew] at hs3_0); (have hq3_1 : w2.heap.size < w3.heap.size := by omega); (have hl3_1 : w2.heap.size ≤ w3.heap.size := by omega); (have hr3_1 := fun o => hc3 (w2.heap.size) o (by first | omega | (simp; done) | (simp; omega))); (have hs3_1 := fun o => hf3 (w2.heap.size) o (by first | omega | (simp; done) | (simp; omega))); (try simp (disch := first | omega | (simp; omega)) only [World.cell?_alloc_past, World.cell?_drew] at hr3_1); (try simp (disch := first | omega | (simp; omega)) only [World.frozen?_alloc_past, World.frozen?_drew] at hs3_1); clear hc3 hf3)
    (go_wp2_with fail; refine (HM.out _).mono ?_; rintro e w4 ⟨rfl, hb4⟩; obtain ⟨hc4, hf4, hz4⟩ := ext_facts hb4; (try simp at hz4); (have hq4_0 : w.heap.size < w4.heap.size := by omega); (have hl4_0 : w.heap.size ≤ w4.heap.size := by omega); (have hr4_0 := fun o => hc4 (w.heap.size) o (by first | omega | (simp; done) | (simp; omega))); (have hs4_0 := fun o => hf4 (w.heap.size) o (by first | omega | (simp; done) | (simp; omega))); (try simp (disch := first | omega | (simp; omega)) only [World.cell?_alloc_past, World.cell?_drew] at hr4_0); (try simp (disch := first | omega | (simp; omega)) only [World.frozen?_alloc_past, World.frozen?_drew] at hs4_0); (have hq4_1 : w2.heap.size < w4.heap.size := by omega); (have hl4_1 : w2.heap.size ≤ w4.heap.size := by omega); (have hr4_1 := fun o => hc4 (w2.heap.size) o (by first | omega | (simp; done) | (simp; omega))); (have hs4_1 := fun o => hf4 (w2.heap.size) o (by first | omega | (simp; done) | (simp; omega))); (try simp (disch := first | omega | (simp; omega)) only [World.cell?_alloc_past, World.cell?_drew] at hr4_1); (try simp (disch := first | omega | (simp; omega)) only [World.frozen?_alloc_past, World.frozen?_drew] at hs4_1); clear hc4 hf4)
    (go_wp2_with fail; refine (newNumber_ok _ _ HR.out).mono ?_; rintro e w5 ⟨rfl, hb5⟩; obtain ⟨hc5, hf5, hz5⟩ := ext_facts hb5; (try simp at hz5); (have hq5_0 : w.heap.size < w5.heap.size := by omega); (have hl5_0 : w.heap.size ≤ w5.heap.size := by omega); (have hr5_0 := fun o => hc5 (w.heap.size) o (by first | omega | (simp; done) | (simp; omega))); (have hs5_0 := fun o => hf5 (w.heap.size) o (by first | omega | (simp; done) | (simp; omega))); (try simp (disch := first | omega | (simp; omega)) only [World.cell?_alloc_past, World.cell?_drew] at hr5_0); (try simp (disch := first | omega | (simp; omega)) only [World.frozen?_alloc_past, World.frozen?_drew] at hs5_0); clear hc5 hf5)
    go_wp2
    exact bodyPost_ret (v := fnum r) (by simp [results, Tryz.results21, go_sem, *]) rfl ⟨rfl, (by repeat (first | with_reducible exact Below.refl _ _ | with_reducible assumption | ((with_reducible refine Below.setCell ?_ ?_ _); rotate_left; (simp; try omega)) | (with_reducible refine Ext.tr ?_ (by with_reducible assumption)) | (with_reducible refine Ext.al ?_ _) | (with_reducible refine below_drewN ?_ _) | (with_reducible refine Below.drew ?_)))⟩

theorem fn_odd (n : Int) (fb b B : Nat) (w : World) (n1 : -99999999999 ≤ n) (n2 : n ≤ 99999999999) (ha : ArgsAt w b B [fnumC (Fl.fx 0 n)]) :
    Calls Tryz.prog 21 #[ptr fb, ptr b] w (Gives w (fnum (Fl.fx 0 (oddOf n)))) := by
  have e1' : (4607182418800017408 : Nat) = Fl.fx 0 1 := by decide
  have e2' : (4611686018427387904 : Nat) = Fl.fx 0 2 := by decide
  by_cases h0 : n = 0
  · subst h0
    rw [show Fl.fx 0 0 = 0 by decide] at ha
    rw [show oddOf 0 = 1 by decide, ← e1']
    exact odd_zero fb b B w ha
  · obtain ⟨v, hv, hm⟩ := modf_half (k := n - 1) (by omega) (by omega)
    obtain ⟨e1, e2⟩ := half_word_of n1 n2
    have hsg : ∀ w', Calls Tryz.prog 38 #[.float .f64 (Fl.fx 0 n)] w' (Gives w' (.bool (decide (n < 0)))) := by
      intro w'
      rw [Fl.fx_word]
      exact signbit_ok (Fl.nearest_lt (by omega) (by omega) (by omega)) w'
    have hq := Int.mul_tdiv_add_tmod (n - 1) 2
    have h5 := Int.tmod_lt_of_pos (n - 1) (show (0 : Int) < 2 by decide)
    have h4 := Int.lt_tmod_of_pos (n - 1) (show (0 : Int) < 2 by decide)
    have h6 : n - 1 < 0 → (n - 1).tmod 2 ≤ 0 := fun h => by
      have := Int.tmod_nonneg (a := -(n - 1)) 2 (by omega)
      rw [Int.neg_tmod] at this; omega
    have h7 : 0 ≤ n - 1 → 0 ≤ (n - 1).tmod 2 := fun h => Int.tmod_nonneg 2 h
    generalize hT : (n - 1).tdiv 2 = T at *
    generalize hR : (n - 1).tmod 2 = R at *
    have e3 : FloatKind.f64.format.mul (Fl.fx 0 T) 4611686018427387904 = some (Fl.fx 0 (2 * T)) := by rw [e2']; exact Fl.double_fx (by omega) (by omega)
    have e4 : FloatKind.f64.format.add (Fl.fx 0 (2 * T)) 4607182418800017408 = some (Fl.fx 0 (2 * T + 1)) := by
      rw [e1']; exact Fl.add_fx (by omega) (by omega) (by omega) (by omega) (by omega) (by omega) (by omega) (by omega)
    have hod := odd_bound n1 n2
    refine odd_walk _ _ _ _ v _ _ (Fl.fx 0 (oddOf n)) (decide (n < 0)) (decide (R = 0)) fb b B w (tame_fx0 (by omega) (by omega)) (tame_fx0 (by omega) (by omega)) (zero_eq h0 (by omega) (by omega)) hsg e1 e2 hm hv e3 e4 ?_ ?_ ?_ ha
    · intro hf
      have hR0 : R = 0 := by simpa using hf
      congr 1; unfold oddOf; split <;> split <;> omega
    · intro hf hs
      have hR0 : ¬ R = 0 := by simpa using hf
      have hn0 : ¬ n < 0 := by simpa using hs
      rw [show oddOf n = 2 * T + 1 + 2 by unfold oddOf; rw [if_neg hn0]; split <;> omega, e2']
      exact Fl.add_fx (by omega) (by omega) (by omega) (by omega) (by omega) (by omega) (by omega) (by omega)
    · intro hf hs
      have hR0 : ¬ R = 0 := by simpa using hf
      have hn0 : n < 0 := by simpa using hs
      rw [show oddOf n = 2 * T + 1 - 2 by unfold oddOf; rw [if_pos hn0]; split <;> omega, e2']
      exact Fl.sub_fx (by omega) (by omega) (by omega) (by omega) (by omega) (by omega) (by omega) (by omega) (by omega)

set_option maxHeartbeats 800000 in
theorem door_ODD (inner : Iv → Array Value) (xs : List Iv) (y : Value) (z : Iv) (b o c : Nat) (w : World) (hl : xs.length ≤ 1000000000) (hx : LieI w b o xs)
    (hin : ∀ x w', x ∈ xs → Calls Tryz.prog 42 #[x.val] w' (Gives w' (.agg (inner x))))
    (hfn : ∀ w' fb p B, ArgsAt w' p B (xs.map inner) → Calls Tryz.prog 21 #[ptr fb, ptr p] w' (Gives w' y))
    (hout : ∀ w', Calls Tryz.prog 19 #[y] w' (Gives w' z.val)) :
    Calls Tryz.prog 13 #[.slice (some ⟨b, o, none⟩) xs.length c] w (Gives w z.val) := by
  have HX := Lib.hid hx; clear hx
  have HI := Lib.hid hin; clear hin
  have HF := Lib.hid hfn; clear hfn
  have HO := Lib.hid hout; clear hout
  go_enter Tryz.func13, Tryz.ntmps13
  (go_wp2_with fail; refine (doorFuncs_any _).mono ?_; rintro e w1 ⟨⟨fb, rfl⟩, hb1⟩; obtain ⟨hc1, hf1, hz1⟩ := ext_facts hb1; (try simp at hz1); (have hq1_0 : w.heap.size < w1.heap.size := by omega); (have hl1_0 : w.heap.size ≤ w1.heap.size := by omega); (have hr1_0 := fun o => hc1 (w.heap.size) o (by first | omega | (simp; done) | (simp; omega))); (have hs1_0 := fun o => hf1 (w.heap.size) o (by first | omega | (simp; done) | (simp; omega))); (try simp (disch := first | omega | (simp; omega)) only [World.cell?_alloc_past, World.cell?_drew] at hr1_0); (try simp (disch := first | omega | (simp; omega)) only [World.frozen?_alloc_past, World.frozen?_drew] at hs1_0); clear hc1 hf1)
  (go_wp2_with fail; refine ((innerList_ok inner xs b o c _ hl (HX.out.ext (by repeat (first | with_reducible exact Below.refl _ _ | with_reducible assumption | ((with_reducible refine Below.setCell ?_ ?_ _); rotate_left; (simp; try omega)) | (with_reducible refine Ext.tr ?_ (by with_reducible assumption)) | (with_reducible refine Ext.al ?_ _) | (with_reducible refine below_drewN ?_ _) | (with_reducible refine Below.drew ?_)))) HI.out)).mono ?_; rintro e w2 ⟨p, rfl, hargs, hb2⟩; obtain ⟨hc2, hf2, hz2⟩ := ext_facts hb2; (try simp at hz2); (have hq2_0 : w.heap.size < w2.heap.size := by omega); (have hl2_0 : w.heap.size ≤ w2.heap.size := by omega); (have hr2_0 := fun o => hc2 (w.heap.size) o (by first | omega | (simp; done) | (simp; omega))); (have hs2_0 := fun o => hf2 (w.heap.size) o (by first | omega | (simp; done) | (simp; omega))); (try simp (disch := first | omega | (simp; omega)) only [World.cell?_alloc_past, World.cell?_drew] at hr2_0); (try simp (disch := first | omega | (simp; omega)) only [World.frozen?_alloc_past, World.frozen?_drew] at hs2_0); clear hc2 hf2)
  have HA := Lib.hid hargs; clear hargs
  (go_wp2_with fail; refine (HF.out w2 fb p _ HA.out).mono ?_; rintro e w3 ⟨rfl, hb3⟩; obtain ⟨hc3, hf3, hz3⟩ := ext_facts hb3; (try simp at hz3); (have hq3_0 : w.heap.size < w3.heap.size := by omega); (have hl3_0 : w.heap.size ≤ w3.heap.size := by omega); (have hr3_0 := fun o => hc3 (w.heap.size) o (by first | omega | (simp; done) | (simp; omega))); (have hs3_0 := fun o => hf3 (w.heap.size) o (by first | omega | (simp; done) | (simp; omega))); (try simp (disch := first | omega | (simp; omega)) only [World.cell?_alloc_past, World.cell?_drew] at hr3_0); (try simp (disch := first | omega | (simp; omega)) only [World.frozen?_alloc_past, World.frozen?_drew] at hs3_0); clear hc3 hf3)
  (go_wp2_with fail; refine (HO.out _).mono ?_; rintro e w4 ⟨rfl, hb4⟩; obtain ⟨hc4, hf4, hz4⟩ := ext_facts hb4; (try simp at hz4); (have hq4_0 : w.heap.size < w4.heap.size := by omega); (have hl4_0 : w.heap.size ≤ w4.heap.size := by omega); (have hr4_0 := fun o => hc4 (w.heap.size) o (by first | omega | (simp; done) | (simp; omega))); (have hs4_0 := fun o => hf4 (w.heap.size) o (by first | omega | (simp; done) | (simp; omega))); (try simp (disch := first | omega | (simp; omega)) only [World.cell?_alloc_past, World.cell?_drew] at hr4_0); (try simp (disch := first | omega | (simp; omega)) only [World.frozen?_alloc_past, World.frozen?_drew] at hs4_0); clear hc4 hf4)
  go_wp2
  exact bodyPost_ret (v := Iv.val z) (by simp [results, Tryz.results13, go_sem, *]) rfl ⟨rfl, (by repeat (first | with_reducible exact Below.refl _ _ | with_reducible assumption | ((with_reducible refine Below.setCell ?_ ?_ _); rotate_left; (simp; try omega)) | (with_reducible refine Ext.tr ?_ (by with_reducible assumption)) | (with_reducible refine Ext.al ?_ _) | (with_reducible refine below_drewN ?_ _) | (with_reducible refine Below.drew ?_)))⟩

set_option maxHeartbeats 800000 in
theorem impl_ODD (xs : List Iv) (z : Iv) (b c : Nat) (w : World) (hl : xs.length ≤ 1000000000) (hne : xs ≠ []) (hx : LieI w b 0 xs)
    (hdoor : ∀ w' b' c', LieI w' b' 0 xs → Calls Tryz.prog 13 #[.slice (some ⟨b', 0, none⟩) xs.length c'] w' (Gives w' z.val)) :
    Calls Tryz.prog 5 #[.slice (some ⟨b, 0, none⟩) xs.length c] w (Gives w z.val) := by
  have HX := Lib.hid hx; clear hx
  have HD := Lib.hid hdoor; clear hdoor
  go_enter Tryz.func5, Tryz.ntmps5
  (go_wp2_with fail; refine (in_at xs b 0 c _ hl (HX.out.ext (by repeat (first | with_reducible exact Below.refl _ _ | with_reducible assumption | ((with_reducible refine Below.setCell ?_ ?_ _); rotate_left; (simp; try omega)) | (with_reducible refine Ext.tr ?_ (by with_reducible assumption)) | (with_reducible refine Ext.al ?_ _) | (with_reducible refine below_drewN ?_ _) | (with_reducible refine Below.drew ?_)))) hne).mono ?_; rintro e w1 ⟨b1, c1, rfl, hlie, hb1⟩; obtain ⟨hc1, hf1, hz1⟩ := ext_facts hb1; (try simp at hz1); (have hq1_0 : w.heap.size < w1.heap.size := by omega); (have hl1_0 : w.heap.size ≤ w1.heap.size := by omega); (have hr1_0 := fun o => hc1 (w.heap.size) o (by first | omega | (simp; done) | (simp; omega))); (have hs1_0 := fun o => hf1 (w.heap.size) o (by first | omega | (simp; done) | (simp; omega))); (try simp (disch := first | omega | (simp; omega)) only [World.cell?_alloc_past, World.cell?_drew] at hr1_0); (try simp (disch := first | omega | (simp; omega)) only [World.frozen?_alloc_past, World.frozen?_drew] at hs1_0); clear hc1 hf1)
  have HL := Lib.hid hlie; clear hlie
  (go_wp2_with fail; refine (HD.out _ b1 c1 HL.out).mono ?_; rintro e w2 ⟨rfl, hb2⟩; obtain ⟨hc2, hf2, hz2⟩ := ext_facts hb2; (try simp at hz2); (have hq2_0 : w.heap.size < w2.heap.size := by omega); (have hl2_0 : w.heap.size ≤ w2.heap.size := by omega); (have hr2_0 := fun o => hc2 (w.heap.size) o (by first | omega | (simp; done) | (simp; omega))); (have hs2_0 := fun o => hf2 (w.heap.size) o (by first | omega | (simp; done) | (simp; omega))); (try simp (disch := first | omega | (simp; omega)) only [World.cell?_alloc_past, World.cell?_drew] at hr2_0); (try simp (disch := first | omega | (simp; omega)) only [World.frozen?_alloc_past, World.frozen?_drew] at hs2_0); clear hc2 hf2)
  (go_wp2_with fail; refine (out_ok z _).mono ?_; rintro e w3 ⟨rfl, hb3⟩; obtain ⟨hc3, hf3, hz3⟩ := ext_facts hb3; (try simp at hz3); (have hq3_0 : w.heap.size < w3.heap.size := by omega); (have hl3_0 : w.heap.size ≤ w3.heap.size := by omega); (have hr3_0 := fun o => hc3 (w.heap.size) o (by first | omega | (simp; done) | (simp; omega))); (have hs3_0 := fun o => hf3 (w.heap.size) o (by first | omega | (simp; done) | (simp; omega))); (try simp (disch := first | omega | (simp; omega)) only [World.cell?_alloc_past, World.cell?_drew] at hr3_0); (try simp (disch := first | omega | (simp; omega)) only [World.frozen?_alloc_past, World.frozen?_drew] at hs3_0); clear hc3 hf3)
  go_wp2
  exact bodyPost_ret (v := Iv.val z) (by simp [results, Tryz.results5, go_sem, *]) rfl ⟨rfl, (by repeat (first | with_reducible exact Below.refl _ _ | with_reducible assumption | ((with_reducible refine Below.setCell ?_ ?_ _); rotate_left; (simp; try omega)) | (with_reducible refine Ext.tr ?_ (by with_reducible assumption)) | (with_reducible refine Ext.al ?_ _) | (with_reducible refine below_drewN ?_ _) | (with_reducible refine Below.drew ?_)))⟩

theorem pack_ODD (a1 : Nat) (y : Value) (z : Iv) (t1 : Tame a1) (b c : Nat) (w : World) (hx : LieI w b 0 [ivn a1])
    (hfn : ∀ w' fb p B, ArgsAt w' p B [fnumC a1] → Calls Tryz.prog 21 #[ptr fb, ptr p] w' (Gives w' y))
    (hout : ∀ w', Calls Tryz.prog 19 #[y] w' (Gives w' z.val)) :
    Calls Tryz.prog 5 #[.slice (some ⟨b, 0, none⟩) 1 c] w (Gives w z.val) := by
  refine impl_ODD [ivn a1] z b c w (by simp) (by simp) hx fun w2 b2 c2 hl2 => ?_
  refine door_ODD (fun x => fnumC x.f) [ivn a1] y z b2 0 c2 w2 (by simp) hl2 (fun u w3 hu => inner_ivn u _ ?_ w3 hu) hfn hout
  intro v hv
  have e : v = ivn a1 := by simpa using hv
  subst e; exact ⟨rfl, t1⟩
end Go.Proofs.YtobidgofiogndaaGreatDoor
