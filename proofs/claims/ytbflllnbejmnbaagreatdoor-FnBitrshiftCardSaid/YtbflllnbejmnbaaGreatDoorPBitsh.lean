/-
  BITRSHIFT of the package.
-/
import Derived.Test.YtbflllnbejmnbaaGreatDoorMap
namespace Go.Proofs.YtbflllnbejmnbaaGreatDoor
set_option linter.unusedSimpArgs false
set_option linter.unusedVariables false
open Go Go.RowKit
set_option maxRecDepth 100000

set_option maxHeartbeats 400000 in
theorem shFn (a b : Int) (w : World) (h1 : 0 ≤ b) (h2 : b ≤ 20) : Calls Tryz.prog 112 #[.int .i64 a, .int .i64 b] w (Gives w (.int .i64 (a / 2 ^ b.toNat))) := by
  go_enter Tryz.func112, Tryz.ntmps112
  go_wp2
  go_ret
  exact ⟨rfl, (by repeat (first | with_reducible exact Below.refl _ _ | with_reducible assumption | ((with_reducible refine Below.setCell ?_ ?_ _); rotate_left; (simp; try omega)) | (with_reducible refine Ext.tr ?_ (by with_reducible assumption)) | (with_reducible refine Ext.al ?_ _) | (with_reducible refine below_drewN ?_ _) | (with_reducible refine Below.drew ?_)))⟩

theorem lt_false {a b : Int} (h : b ≤ a) (h1 : -2 ^ 53 < a) (h2 : a < 2 ^ 53) (h3 : -2 ^ 53 < b) (h4 : b < 2 ^ 53) : (FloatKind.f64.format.order (Fl.fx 0 a) (Fl.fx 0 b) == some Ordering.lt) = false := by
  rw [order_fx0 h1 h2 h3 h4]
  rcases (show a = b ∨ b < a by omega) with h | h
  · rw [cmp_eq h]; rfl
  · rw [cmp_gt h]; rfl
theorem lt_true {a b : Int} (h : a < b) (h1 : -2 ^ 53 < a) (h2 : a < 2 ^ 53) (h3 : -2 ^ 53 < b) (h4 : b < 2 ^ 53) : (FloatKind.f64.format.order (Fl.fx 0 a) (Fl.fx 0 b) == some Ordering.lt) = true := by
  rw [order_fx0 h1 h2 h3 h4, cmp_lt h]; rfl
theorem gt_false {a b : Int} (h : a ≤ b) (h1 : -2 ^ 53 < a) (h2 : a < 2 ^ 53) (h3 : -2 ^ 53 < b) (h4 : b < 2 ^ 53) : (FloatKind.f64.format.order (Fl.fx 0 a) (Fl.fx 0 b) == some Ordering.gt) = false := by
  rw [order_fx0 h1 h2 h3 h4]
  rcases (show a = b ∨ a < b by omega) with h | h
  · rw [cmp_eq h]; rfl
  · rw [cmp_lt h]; rfl
theorem conv_fx {n : Int} (h1 : -2 ^ 53 < n) (h2 : n < 2 ^ 53) (w : World) : (convert 34 3 (.float .f64 (Fl.fx 0 n))).run Tryz.prog w = .ok (.int .i64 n) w := by
  refine run_convert_float_int w 34 3 .f64 .i64 (Fl.fx 0 n) n (by kernel_rfl) Tryz.underlying3 ?_
  have h := Fl.toInt_fx h1 h2
  unfold floatToIntVal
  rw [show (FloatKind.f64.decode (Fl.fx 0 n)).toInt .zero = some n from h]
  have h3 : IntKind.i64.min = -9223372036854775808 := by decide
  have h4 : IntKind.i64.max = 9223372036854775807 := by decide
  simp only [h3, h4]
  rw [if_pos (by omega)]

theorem fx_zero : Fl.fx 0 0 = 0 := by decide
theorem fx_most : Fl.fx 0 281474976710655 = 4823355200913801184 := by decide +kernel

/-- The entries of the map of functions, in the order in which they are made. -/
abbrev ent1 : MapEntry := ⟨.string ⟨#[66, 73, 84, 65, 78, 68]⟩, .func (.func 109) #[] #[], 0⟩
abbrev ent2 : MapEntry := ⟨.string ⟨#[66, 73, 84, 76, 83, 72, 73, 70, 84]⟩, .func (.func 110) #[] #[], 1⟩
abbrev ent3 : MapEntry := ⟨.string ⟨#[66, 73, 84, 79, 82]⟩, .func (.func 111) #[] #[], 2⟩
abbrev ent4 : MapEntry := ⟨.string ⟨#[66, 73, 84, 82, 83, 72, 73, 70, 84]⟩, .func (.func 112) #[] #[], 3⟩
abbrev ent5 : MapEntry := ⟨.string ⟨#[66, 73, 84, 88, 79, 82]⟩, .func (.func 113) #[] #[], 4⟩
theorem upd1 (w : World) (b : Nat) (hb : w.heap.size = b) : (Instr.mapUpdate 96 (.map (some b)) (.string ⟨#[66, 73, 84, 65, 78, 68]⟩) (.func (.func 109) #[] #[])).run Tryz.prog (w.alloc (.map #[] 0)) = .ok () (w.alloc (.map #[ent1] 1)) :=
  upd Tryz.underlying96 #[] 0 _ _ (fun _ => by kernel_rfl) (fun _ => by kernel_rfl) w b hb
theorem upd2 (w : World) (b : Nat) (hb : w.heap.size = b) : (Instr.mapUpdate 96 (.map (some b)) (.string ⟨#[66, 73, 84, 76, 83, 72, 73, 70, 84]⟩) (.func (.func 110) #[] #[])).run Tryz.prog (w.alloc (.map #[ent1] 1)) = .ok () (w.alloc (.map #[ent1, ent2] 2)) :=
  upd Tryz.underlying96 #[ent1] 1 _ _ (fun _ => by kernel_rfl) (fun _ => by kernel_rfl) w b hb
theorem upd3 (w : World) (b : Nat) (hb : w.heap.size = b) : (Instr.mapUpdate 96 (.map (some b)) (.string ⟨#[66, 73, 84, 79, 82]⟩) (.func (.func 111) #[] #[])).run Tryz.prog (w.alloc (.map #[ent1, ent2] 2)) = .ok () (w.alloc (.map #[ent1, ent2, ent3] 3)) :=
  upd Tryz.underlying96 #[ent1, ent2] 2 _ _ (fun _ => by kernel_rfl) (fun _ => by kernel_rfl) w b hb
theorem upd4 (w : World) (b : Nat) (hb : w.heap.size = b) : (Instr.mapUpdate 96 (.map (some b)) (.string ⟨#[66, 73, 84, 82, 83, 72, 73, 70, 84]⟩) (.func (.func 112) #[] #[])).run Tryz.prog (w.alloc (.map #[ent1, ent2, ent3] 3)) = .ok () (w.alloc (.map #[ent1, ent2, ent3, ent4] 4)) :=
  upd Tryz.underlying96 #[ent1, ent2, ent3] 3 _ _ (fun _ => by kernel_rfl) (fun _ => by kernel_rfl) w b hb
theorem upd5 (w : World) (b : Nat) (hb : w.heap.size = b) : (Instr.mapUpdate 96 (.map (some b)) (.string ⟨#[66, 73, 84, 88, 79, 82]⟩) (.func (.func 113) #[] #[])).run Tryz.prog (w.alloc (.map #[ent1, ent2, ent3, ent4] 4)) = .ok () (w.alloc (.map #[ent1, ent2, ent3, ent4, ent5] 5)) :=
  upd Tryz.underlying96 #[ent1, ent2, ent3, ent4] 4 _ _ (fun _ => by kernel_rfl) (fun _ => by kernel_rfl) w b hb
theorem look4 (w : World) (b : Nat) (hb : w.heap.size = b) : (Instr.lookup 96 (.map (some b)) (.string ⟨#[66, 73, 84, 82, 83, 72, 73, 70, 84]⟩) false).run Tryz.prog (w.alloc (.map #[ent1, ent2, ent3, ent4, ent5] 5)) = .ok (.func (.func 112) #[] #[]) (w.alloc (.map #[ent1, ent2, ent3, ent4, ent5] 5)) := by
  subst hb
  exact look (w := w) Tryz.underlying96 #[ent1, ent2, ent3, ent4, ent5] 5 3 _ _ rfl (fun _ => by kernel_rfl) (fun _ => by kernel_rfl) _ _ (alloc_at w _)

set_option maxHeartbeats 3200000 in
theorem bitwise_sh (n m : Int) (fb b B : Nat) (w : World) (h1 : 0 ≤ n) (h2 : n ≤ 99999999999) (h3 : 0 ≤ m) (h4 : m ≤ 20) (ht : Tame (Fl.fx 0 (n / 2 ^ m.toNat)))
    (ha : ArgsAt w b B [fnumC (Fl.fx 0 n), fnumC (Fl.fx 0 m)]) :
    Calls Tryz.prog 33 #[ptr fb, .string ⟨#[66, 73, 84, 82, 83, 72, 73, 70, 84]⟩, ptr b] w (Gives w (fnum (Fl.fx 0 (n / 2 ^ m.toNat)))) := by
  have HA := Lib.hid ha; clear ha
  have HT := Lib.hid ht; clear ht
  have HT1 := Lib.hid (tame_fx0 (n := n) (by omega) (by omega))
  have HT2 := Lib.hid (tame_fx0 (n := m) (by omega) (by omega))
  have l1 := lt_false (a := n) (b := 0) h1 (by omega) (by omega) (by omega) (by omega)
  have l2 := lt_false (a := m) (b := 0) h3 (by omega) (by omega) (by omega) (by omega)
  have g1 := gt_false (a := n) (b := 281474976710655) (by omega) (by omega) (by omega) (by omega) (by omega)
  have g2 := gt_false (a := m) (b := 281474976710655) (by omega) (by omega) (by omega) (by omega) (by omega)
  rw [fx_zero] at l1 l2
  rw [fx_most] at g1 g2
  have i1 := conv_fx (n := n) (by omega) (by omega)
  have i2 := conv_fx (n := m) (by omega) (by omega)
  have H3 := Lib.hid h3; have H4 := Lib.hid h4
  clear h1 h2 h3 h4
  generalize Fl.fx 0 n = x at HA HT1 l1 g1 i1
  generalize Fl.fx 0 m = y at HA HT2 l2 g2 i2
  have hmm := @run_makeMap Tryz.prog
  have u1 := upd1; have u2 := upd2; have u3 := upd3; have u4 := upd4; have u5 := upd5; have u6 := look4
  go_enter Tryz.func33, Tryz.ntmps33
  (go_wp2_with fail; refine (len_ok _ b B _ (HA.out.ext (by repeat (first | with_reducible exact Below.refl _ _ | with_reducible assumption | ((with_reducible refine Below.setCell ?_ ?_ _); rotate_left; (simp; try omega)) | (with_reducible refine Ext.tr ?_ (by with_reducible assumption)) | (with_reducible refine Ext.al ?_ _) | (with_reducible refine below_drewN ?_ _) | (with_reducible refine Below.drew ?_))))).mono ?_; rintro e w1 ⟨rfl, rfl⟩)
  (go_wp2_with fail; refine (front_ok _ b B _ [fnumC y] (HA.out.ext (by repeat (first | with_reducible exact Below.refl _ _ | with_reducible assumption | ((with_reducible refine Below.setCell ?_ ?_ _); rotate_left; (simp; try omega)) | (with_reducible refine Ext.tr ?_ (by with_reducible assumption)) | (with_reducible refine Ext.al ?_ _) | (with_reducible refine below_drewN ?_ _) | (with_reducible refine Below.drew ?_))))).mono ?_; rintro e w1 ⟨⟨n1, rfl, he⟩, rfl⟩)
  unfold ElemAt at he
  (go_wp2_with fail; refine (toNumber_num x false _ HT1.out).mono ?_; rintro e w2 ⟨rfl, hb2⟩; obtain ⟨hc2, hf2, hz2⟩ := ext_facts hb2; (try simp at hz2); (have hq2_0 : w.heap.size < w2.heap.size := by omega); (have hl2_0 : w.heap.size ≤ w2.heap.size := by omega); (have hr2_0 := fun o => hc2 (w.heap.size) o (by first | omega | (simp; done) | (simp; omega))); (have hs2_0 := fun o => hf2 (w.heap.size) o (by first | omega | (simp; done) | (simp; omega))); (try simp (disch := first | omega | (simp; omega)) only [World.cell?_alloc_past] at hr2_0); (try simp (disch := first | omega | (simp; omega)) only [World.frozen?_alloc_past] at hs2_0); clear hc2 hf2)
  clear he
  (go_wp2_with fail; refine (back_ok _ b B (fnumC y) [fnumC x] (HA.out.ext (by repeat (first | with_reducible exact Below.refl _ _ | with_reducible assumption | ((with_reducible refine Below.setCell ?_ ?_ _); rotate_left; (simp; try omega)) | (with_reducible refine Ext.tr ?_ (by with_reducible assumption)) | (with_reducible refine Ext.al ?_ _) | (with_reducible refine below_drewN ?_ _) | (with_reducible refine Below.drew ?_))))).mono ?_; rintro e w1 ⟨⟨n2, rfl, he⟩, rfl⟩)
  unfold ElemAt at he
  (go_wp2_with fail; refine (toNumber_num y false _ HT2.out).mono ?_; rintro e w3 ⟨rfl, hb3⟩; obtain ⟨hc3, hf3, hz3⟩ := ext_facts hb3; (try simp at hz3); (have hq3_0 : w.heap.size < w3.heap.size := by omega); (have hl3_0 : w.heap.size ≤ w3.heap.size := by omega); (have hr3_0 := fun o => hc3 (w.heap.size) o (by first | omega | (simp; done) | (simp; omega))); (have hs3_0 := fun o => hf3 (w.heap.size) o (by first | omega | (simp; done) | (simp; omega))); (try simp (disch := first | omega | (simp; omega)) only [World.cell?_alloc_past] at hr3_0); (try simp (disch := first | omega | (simp; omega)) only [World.frozen?_alloc_past] at hs3_0); clear hc3 hf3)
  clear he
  (go_wp2_with fail; refine (shFn n m _ H3.out H4.out).mono ?_; rintro e w4 ⟨rfl, hb4⟩; obtain ⟨hc4, hf4, hz4⟩ := ext_facts hb4; (try simp at hz4); (have hq4_0 : w.heap.size < w4.heap.size := by omega); (have hl4_0 : w.heap.size ≤ w4.heap.size := by omega); (have hr4_0 := fun o => hc4 (w.heap.size) o (by first | omega | (simp; done) | (simp; omega))); (have hs4_0 := fun o => hf4 (w.heap.size) o (by first | omega | (simp; done) | (simp; omega))); (try simp (disch := first | omega | (simp; omega)) only [World.cell?_alloc_past] at hr4_0); (try simp (disch := first | omega | (simp; omega)) only [World.frozen?_alloc_past] at hs4_0); clear hc4 hf4)
  (go_wp2_with fail; refine (newNumber_ok _ _ HT.out).mono ?_; rintro e w5 ⟨rfl, hb5⟩; obtain ⟨hc5, hf5, hz5⟩ := ext_facts hb5; (try simp at hz5); (have hq5_0 : w.heap.size < w5.heap.size := by omega); (have hl5_0 : w.heap.size ≤ w5.heap.size := by omega); (have hr5_0 := fun o => hc5 (w.heap.size) o (by first | omega | (simp; done) | (simp; omega))); (have hs5_0 := fun o => hf5 (w.heap.size) o (by first | omega | (simp; done) | (simp; omega))); (try simp (disch := first | omega | (simp; omega)) only [World.cell?_alloc_past] at hr5_0); (try simp (disch := first | omega | (simp; omega)) only [World.frozen?_alloc_past] at hs5_0); clear hc5 hf5)
  go_wp2
  exact bodyPost_ret (v := fnum (Fl.fx 0 (n / 2 ^ m.toNat))) (by simp [results, Tryz.results33, go_sem, *]) rfl ⟨rfl, (by repeat (first | with_reducible exact Below.refl _ _ | with_reducible assumption | ((with_reducible refine Below.setCell ?_ ?_ _); rotate_left; (simp; try omega)) | (with_reducible refine Ext.tr ?_ (by with_reducible assumption)) | (with_reducible refine Ext.al ?_ _) | (with_reducible refine below_drewN ?_ _) | (with_reducible refine Below.drew ?_)))⟩

set_option maxHeartbeats 3200000 in
theorem bitwise_neg (n m : Int) (fb b B : Nat) (w : World) (h1 : -99999999999 ≤ n) (h2 : n ≤ 99999999999) (h3 : -99999999999 ≤ m) (h4 : m ≤ 99999999999) (hneg : n < 0 ∨ m < 0)
    (ha : ArgsAt w b B [fnumC (Fl.fx 0 n), fnumC (Fl.fx 0 m)]) :
    Calls Tryz.prog 33 #[ptr fb, .string ⟨#[66, 73, 84, 82, 83, 72, 73, 70, 84]⟩, ptr b] w (Gives w (ferr ⟨#[35, 78, 85, 77, 33]⟩ ⟨#[35, 78, 85, 77, 33]⟩)) := by
  have HA := Lib.hid ha; clear ha
  have HT1 := Lib.hid (tame_fx0 (n := n) (by omega) (by omega))
  have HT2 := Lib.hid (tame_fx0 (n := m) (by omega) (by omega))
  by_cases hn : n < 0
  · have l1 := lt_true (a := n) (b := 0) hn (by omega) (by omega) (by omega) (by omega)
    rw [fx_zero] at l1
    clear h1 h2 h3 h4 hneg hn
    generalize Fl.fx 0 n = x at *
    generalize Fl.fx 0 m = y at *
    go_enter Tryz.func33, Tryz.ntmps33
    (go_wp2_with fail; refine (len_ok _ b B _ (HA.out.ext (by repeat (first | with_reducible exact Below.refl _ _ | with_reducible assumption | ((with_reducible refine Below.setCell ?_ ?_ _); rotate_left; (simp; try omega)) | (with_reducible refine Ext.tr ?_ (by with_reducible assumption)) | (with_reducible refine Ext.al ?_ _) | (with_reducible refine below_drewN ?_ _) | (with_reducible refine Below.drew ?_))))).mono ?_; rintro e w1 ⟨rfl, rfl⟩)
    (go_wp2_with fail; refine (front_ok _ b B _ [fnumC y] (HA.out.ext (by repeat (first | with_reducible exact Below.refl _ _ | with_reducible assumption | ((with_reducible refine Below.setCell ?_ ?_ _); rotate_left; (simp; try omega)) | (with_reducible refine Ext.tr ?_ (by with_reducible assumption)) | (with_reducible refine Ext.al ?_ _) | (with_reducible refine below_drewN ?_ _) | (with_reducible refine Below.drew ?_))))).mono ?_; rintro e w1 ⟨⟨n1, rfl, he⟩, rfl⟩)
    unfold ElemAt at he
    (go_wp2_with fail; refine (toNumber_num x false _ HT1.out).mono ?_; rintro e w2 ⟨rfl, hb2⟩; obtain ⟨hc2, hf2, hz2⟩ := ext_facts hb2; (try simp at hz2); (have hq2_0 : w.heap.size < w2.heap.size := by omega); (have hl2_0 : w.heap.size ≤ w2.heap.size := by omega); (have hr2_0 := fun o => hc2 (w.heap.size) o (by first | omega | (simp; done) | (simp; omega))); (have hs2_0 := fun o => hf2 (w.heap.size) o (by first | omega | (simp; done) | (simp; omega))); (try simp (disch := first | omega | (simp; omega)) only [World.cell?_alloc_past] at hr2_0); (try simp (disch := first | omega | (simp; omega)) only [World.frozen?_alloc_past] at hs2_0); clear hc2 hf2)
    clear he
    (go_wp2_with fail; refine (back_ok _ b B (fnumC y) [fnumC x] (HA.out.ext (by repeat (first | with_reducible exact Below.refl _ _ | with_reducible assumption | ((with_reducible refine Below.setCell ?_ ?_ _); rotate_left; (simp; try omega)) | (with_reducible refine Ext.tr ?_ (by with_reducible assumption)) | (with_reducible refine Ext.al ?_ _) | (with_reducible refine below_drewN ?_ _) | (with_reducible refine Below.drew ?_))))).mono ?_; rintro e w1 ⟨⟨n2, rfl, he⟩, rfl⟩)
    unfold ElemAt at he
    (go_wp2_with fail; refine (toNumber_num y false _ HT2.out).mono ?_; rintro e w3 ⟨rfl, hb3⟩; obtain ⟨hc3, hf3, hz3⟩ := ext_facts hb3; (try simp at hz3); (have hq3_0 : w.heap.size < w3.heap.size := by omega); (have hl3_0 : w.heap.size ≤ w3.heap.size := by omega); (have hr3_0 := fun o => hc3 (w.heap.size) o (by first | omega | (simp; done) | (simp; omega))); (have hs3_0 := fun o => hf3 (w.heap.size) o (by first | omega | (simp; done) | (simp; omega))); (try simp (disch := first | omega | (simp; omega)) only [World.cell?_alloc_past] at hr3_0); (try simp (disch := first | omega | (simp; omega)) only [World.frozen?_alloc_past] at hs3_0); clear hc3 hf3)
    clear he
    (go_wp2_with fail; refine (newError_any _ _ _).mono ?_; rintro e w5 ⟨rfl, hb5⟩; obtain ⟨hc5, hf5, hz5⟩ := ext_facts hb5; (try simp at hz5); (have hq5_0 : w.heap.size < w5.heap.size := by omega); (have hl5_0 : w.heap.size ≤ w5.heap.size := by omega); (have hr5_0 := fun o => hc5 (w.heap.size) o (by first | omega | (simp; done) | (simp; omega))); (have hs5_0 := fun o => hf5 (w.heap.size) o (by first | omega | (simp; done) | (simp; omega))); (try simp (disch := first | omega | (simp; omega)) only [World.cell?_alloc_past] at hr5_0); (try simp (disch := first | omega | (simp; omega)) only [World.frozen?_alloc_past] at hs5_0); clear hc5 hf5)
    go_wp2
    exact bodyPost_ret (v := ferr ⟨#[35, 78, 85, 77, 33]⟩ ⟨#[35, 78, 85, 77, 33]⟩) (by simp [results, Tryz.results33, go_sem, *]) rfl ⟨rfl, (by repeat (first | with_reducible exact Below.refl _ _ | with_reducible assumption | ((with_reducible refine Below.setCell ?_ ?_ _); rotate_left; (simp; try omega)) | (with_reducible refine Ext.tr ?_ (by with_reducible assumption)) | (with_reducible refine Ext.al ?_ _) | (with_reducible refine below_drewN ?_ _) | (with_reducible refine Below.drew ?_)))⟩
  · have hm : m < 0 := by omega
    have l1 := lt_false (a := n) (b := 0) (by omega) (by omega) (by omega) (by omega) (by omega)
    have g1 := gt_false (a := n) (b := 281474976710655) (by omega) (by omega) (by omega) (by omega) (by omega)
    have l2 := lt_true (a := m) (b := 0) hm (by omega) (by omega) (by omega) (by omega)
    rw [fx_zero] at l1 l2
    rw [fx_most] at g1
    clear h1 h2 h3 h4 hneg hn hm
    generalize Fl.fx 0 n = x at *
    generalize Fl.fx 0 m = y at *
    go_enter Tryz.func33, Tryz.ntmps33
    (go_wp2_with fail; refine (len_ok _ b B _ (HA.out.ext (by repeat (first | with_reducible exact Below.refl _ _ | with_reducible assumption | ((with_reducible refine Below.setCell ?_ ?_ _); rotate_left; (simp; try omega)) | (with_reducible refine Ext.tr ?_ (by with_reducible assumption)) | (with_reducible refine Ext.al ?_ _) | (with_reducible refine below_drewN ?_ _) | (with_reducible refine Below.drew ?_))))).mono ?_; rintro e w1 ⟨rfl, rfl⟩)
    (go_wp2_with fail; refine (front_ok _ b B _ [fnumC y] (HA.out.ext (by repeat (first | with_reducible exact Below.refl _ _ | with_reducible assumption | ((with_reducible refine Below.setCell ?_ ?_ _); rotate_left; (simp; try omega)) | (with_reducible refine Ext.tr ?_ (by with_reducible assumption)) | (with_reducible refine Ext.al ?_ _) | (with_reducible refine below_drewN ?_ _) | (with_reducible refine Below.drew ?_))))).mono ?_; rintro e w1 ⟨⟨n1, rfl, he⟩, rfl⟩)
    unfold ElemAt at he
    (go_wp2_with fail; refine (toNumber_num x false _ HT1.out).mono ?_; rintro e w2 ⟨rfl, hb2⟩; obtain ⟨hc2, hf2, hz2⟩ := ext_facts hb2; (try simp at hz2); (have hq2_0 : w.heap.size < w2.heap.size := by omega); (have hl2_0 : w.heap.size ≤ w2.heap.size := by omega); (have hr2_0 := fun o => hc2 (w.heap.size) o (by first | omega | (simp; done) | (simp; omega))); (have hs2_0 := fun o => hf2 (w.heap.size) o (by first | omega | (simp; done) | (simp; omega))); (try simp (disch := first | omega | (simp; omega)) only [World.cell?_alloc_past] at hr2_0); (try simp (disch := first | omega | (simp; omega)) only [World.frozen?_alloc_past] at hs2_0); clear hc2 hf2)
    clear he
    (go_wp2_with fail; refine (back_ok _ b B (fnumC y) [fnumC x] (HA.out.ext (by repeat (first | with_reducible exact Below.refl _ _ | with_reducible assumption | ((with_reducible refine Below.setCell ?_ ?_ _); rotate_left; (simp; try omega)) | (with_reducible refine Ext.tr ?_ (by with_reducible assumption)) | (with_reducible refine Ext.al ?_ _) | (with_reducible refine below_drewN ?_ _) | (with_reducible refine Below.drew ?_))))).mono ?_; rintro e w1 ⟨⟨n2, rfl, he⟩, rfl⟩)
    unfold ElemAt at he
    (go_wp2_with fail; refine (toNumber_num y false _ HT2.out).mono ?_; rintro e w3 ⟨rfl, hb3⟩; obtain ⟨hc3, hf3, hz3⟩ := ext_facts hb3; (try simp at hz3); (have hq3_0 : w.heap.size < w3.heap.size := by omega); (have hl3_0 : w.heap.size ≤ w3.heap.size := by omega); (have hr3_0 := fun o => hc3 (w.heap.size) o (by first | omega | (simp; done) | (simp; omega))); (have hs3_0 := fun o => hf3 (w.heap.size) o (by first | omega | (simp; done) | (simp; omega))); (try simp (disch := first | omega | (simp; omega)) only [World.cell?_alloc_past] at hr3_0); (try simp (disch := first | omega | (simp; omega)) only [World.frozen?_alloc_past] at hs3_0); clear hc3 hf3)
    clear he
    (go_wp2_with fail; refine (newError_any _ _ _).mono ?_; rintro e w5 ⟨rfl, hb5⟩; obtain ⟨hc5, hf5, hz5⟩ := ext_facts hb5; (try simp at hz5); (have hq5_0 : w.heap.size < w5.heap.size := by omega); (have hl5_0 : w.heap.size ≤ w5.heap.size := by omega); (have hr5_0 := fun o => hc5 (w.heap.size) o (by first | omega | (simp; done) | (simp; omega))); (have hs5_0 := fun o => hf5 (w.heap.size) o (by first | omega | (simp; done) | (simp; omega))); (try simp (disch := first | omega | (simp; omega)) only [World.cell?_alloc_past] at hr5_0); (try simp (disch := first | omega | (simp; omega)) only [World.frozen?_alloc_past] at hs5_0); clear hc5 hf5)
    go_wp2
    exact bodyPost_ret (v := ferr ⟨#[35, 78, 85, 77, 33]⟩ ⟨#[35, 78, 85, 77, 33]⟩) (by simp [results, Tryz.results33, go_sem, *]) rfl ⟨rfl, (by repeat (first | with_reducible exact Below.refl _ _ | with_reducible assumption | ((with_reducible refine Below.setCell ?_ ?_ _); rotate_left; (simp; try omega)) | (with_reducible refine Ext.tr ?_ (by with_reducible assumption)) | (with_reducible refine Ext.al ?_ _) | (with_reducible refine below_drewN ?_ _) | (with_reducible refine Below.drew ?_)))⟩

set_option maxHeartbeats 400000 in
theorem bitsh_num (x : Nat) (fb b : Nat) (w : World) (h : ∀ w', Ext w w' → Calls Tryz.prog 33 #[ptr fb, .string ⟨#[66, 73, 84, 82, 83, 72, 73, 70, 84]⟩, ptr b] w' (Gives w' (fnum x))) :
    Calls Tryz.prog 21 #[ptr fb, ptr b] w (Gives w (fnum x)) := by
  have H := Lib.hid h; clear h
  go_enter Tryz.func21, Tryz.ntmps21
  (go_wp2_with fail; refine (H.out _ (by repeat (first | with_reducible exact Below.refl _ _ | with_reducible assumption | ((with_reducible refine Below.setCell ?_ ?_ _); rotate_left; (simp; try omega)) | (with_reducible refine Ext.tr ?_ (by with_reducible assumption)) | (with_reducible refine Ext.al ?_ _) | (with_reducible refine below_drewN ?_ _) | (with_reducible refine Below.drew ?_)))).mono ?_; rintro e w1 ⟨rfl, hb1⟩; obtain ⟨hc1, hf1, hz1⟩ := ext_facts hb1; (try simp at hz1); (have hq1_0 : w.heap.size < w1.heap.size := by omega); (have hl1_0 : w.heap.size ≤ w1.heap.size := by omega); (have hr1_0 := fun o => hc1 (w.heap.size) o (by first | omega | (simp; done) | (simp; omega))); (have hs1_0 := fun o => hf1 (w.heap.size) o (by first | omega | (simp; done) | (simp; omega))); (try simp (disch := first | omega | (simp; omega)) only [World.cell?_alloc_past] at hr1_0); (try simp (disch := first | omega | (simp; omega)) only [World.frozen?_alloc_past] at hs1_0); clear hc1 hf1)
  go_wp2
  exact bodyPost_ret (v := fnum x) (by simp [results, Tryz.results21, go_sem, *]) rfl ⟨rfl, (by repeat (first | with_reducible exact Below.refl _ _ | with_reducible assumption | ((with_reducible refine Below.setCell ?_ ?_ _); rotate_left; (simp; try omega)) | (with_reducible refine Ext.tr ?_ (by with_reducible assumption)) | (with_reducible refine Ext.al ?_ _) | (with_reducible refine below_drewN ?_ _) | (with_reducible refine Below.drew ?_)))⟩

set_option maxHeartbeats 400000 in
theorem bitsh_err (t u : ByteArray) (fb b : Nat) (w : World) (h : ∀ w', Ext w w' → Calls Tryz.prog 33 #[ptr fb, .string ⟨#[66, 73, 84, 82, 83, 72, 73, 70, 84]⟩, ptr b] w' (Gives w' (ferr t u))) :
    Calls Tryz.prog 21 #[ptr fb, ptr b] w (Gives w (ferr t u)) := by
  have H := Lib.hid h; clear h
  go_enter Tryz.func21, Tryz.ntmps21
  (go_wp2_with fail; refine (H.out _ (by repeat (first | with_reducible exact Below.refl _ _ | with_reducible assumption | ((with_reducible refine Below.setCell ?_ ?_ _); rotate_left; (simp; try omega)) | (with_reducible refine Ext.tr ?_ (by with_reducible assumption)) | (with_reducible refine Ext.al ?_ _) | (with_reducible refine below_drewN ?_ _) | (with_reducible refine Below.drew ?_)))).mono ?_; rintro e w1 ⟨rfl, hb1⟩; obtain ⟨hc1, hf1, hz1⟩ := ext_facts hb1; (try simp at hz1); (have hq1_0 : w.heap.size < w1.heap.size := by omega); (have hl1_0 : w.heap.size ≤ w1.heap.size := by omega); (have hr1_0 := fun o => hc1 (w.heap.size) o (by first | omega | (simp; done) | (simp; omega))); (have hs1_0 := fun o => hf1 (w.heap.size) o (by first | omega | (simp; done) | (simp; omega))); (try simp (disch := first | omega | (simp; omega)) only [World.cell?_alloc_past] at hr1_0); (try simp (disch := first | omega | (simp; omega)) only [World.frozen?_alloc_past] at hs1_0); clear hc1 hf1)
  go_wp2
  exact bodyPost_ret (v := ferr t u) (by simp [results, Tryz.results21, go_sem, *]) rfl ⟨rfl, (by repeat (first | with_reducible exact Below.refl _ _ | with_reducible assumption | ((with_reducible refine Below.setCell ?_ ?_ _); rotate_left; (simp; try omega)) | (with_reducible refine Ext.tr ?_ (by with_reducible assumption)) | (with_reducible refine Ext.al ?_ _) | (with_reducible refine below_drewN ?_ _) | (with_reducible refine Below.drew ?_)))⟩

theorem fn_bitsh (n m : Int) (fb b B : Nat) (w : World) (h1 : 0 ≤ n) (h2 : n ≤ 99999999999) (h3 : 0 ≤ m) (h4 : m ≤ 20) (r1 : -99999999999 ≤ n / 2 ^ m.toNat) (r2 : n / 2 ^ m.toNat ≤ 99999999999)
    (ha : ArgsAt w b B [fnumC (Fl.fx 0 n), fnumC (Fl.fx 0 m)]) :
    Calls Tryz.prog 21 #[ptr fb, ptr b] w (Gives w (fnum (Fl.fx 0 (n / 2 ^ m.toNat)))) :=
  bitsh_num _ fb b w (fun w' hw => bitwise_sh n m fb b B w' h1 h2 h3 h4 (tame_fx0 (by omega) (by omega)) (ha.ext hw))

theorem fn_bitsh_neg (n m : Int) (fb b B : Nat) (w : World) (h1 : -99999999999 ≤ n) (h2 : n ≤ 99999999999) (h3 : -99999999999 ≤ m) (h4 : m ≤ 99999999999) (hneg : n < 0 ∨ m < 0)
    (ha : ArgsAt w b B [fnumC (Fl.fx 0 n), fnumC (Fl.fx 0 m)]) :
    Calls Tryz.prog 21 #[ptr fb, ptr b] w (Gives w (ferr ⟨#[35, 78, 85, 77, 33]⟩ ⟨#[35, 78, 85, 77, 33]⟩)) :=
  bitsh_err _ _ fb b w (fun w' hw => bitwise_neg n m fb b B w' h1 h2 h3 h4 hneg (ha.ext hw))

set_option maxHeartbeats 800000 in
theorem door_BITRSHIFT (inner : Iv → Array Value) (xs : List Iv) (y : Value) (z : Iv) (b o c : Nat) (w : World) (hl : xs.length ≤ 1000000000) (hx : LieI w b o xs)
    (hin : ∀ x w', x ∈ xs → Calls Tryz.prog 36 #[x.val] w' (Gives w' (.agg (inner x))))
    (hfn : ∀ w' fb p B, ArgsAt w' p B (xs.map inner) → Calls Tryz.prog 21 #[ptr fb, ptr p] w' (Gives w' y))
    (hout : ∀ w', Calls Tryz.prog 19 #[y] w' (Gives w' z.val)) :
    Calls Tryz.prog 13 #[.slice (some ⟨b, o, none⟩) xs.length c] w (Gives w z.val) := by
  have HX := Lib.hid hx; clear hx
  have HI := Lib.hid hin; clear hin
  have HF := Lib.hid hfn; clear hfn
  have HO := Lib.hid hout; clear hout
  go_enter Tryz.func13, Tryz.ntmps13
  (go_wp2_with fail; refine (doorFuncs_any _).mono ?_; rintro e w1 ⟨⟨fb, rfl⟩, hb1⟩; obtain ⟨hc1, hf1, hz1⟩ := ext_facts hb1; (try simp at hz1); (have hq1_0 : w.heap.size < w1.heap.size := by omega); (have hl1_0 : w.heap.size ≤ w1.heap.size := by omega); (have hr1_0 := fun o => hc1 (w.heap.size) o (by first | omega | (simp; done) | (simp; omega))); (have hs1_0 := fun o => hf1 (w.heap.size) o (by first | omega | (simp; done) | (simp; omega))); (try simp (disch := first | omega | (simp; omega)) only [World.cell?_alloc_past] at hr1_0); (try simp (disch := first | omega | (simp; omega)) only [World.frozen?_alloc_past] at hs1_0); clear hc1 hf1)
  (go_wp2_with fail; refine ((innerList_ok inner xs b o c _ hl (HX.out.ext (by repeat (first | with_reducible exact Below.refl _ _ | with_reducible assumption | ((with_reducible refine Below.setCell ?_ ?_ _); rotate_left; (simp; try omega)) | (with_reducible refine Ext.tr ?_ (by with_reducible assumption)) | (with_reducible refine Ext.al ?_ _) | (with_reducible refine below_drewN ?_ _) | (with_reducible refine Below.drew ?_)))) HI.out)).mono ?_; rintro e w2 ⟨p, rfl, hargs, hb2⟩; obtain ⟨hc2, hf2, hz2⟩ := ext_facts hb2; (try simp at hz2); (have hq2_0 : w.heap.size < w2.heap.size := by omega); (have hl2_0 : w.heap.size ≤ w2.heap.size := by omega); (have hr2_0 := fun o => hc2 (w.heap.size) o (by first | omega | (simp; done) | (simp; omega))); (have hs2_0 := fun o => hf2 (w.heap.size) o (by first | omega | (simp; done) | (simp; omega))); (try simp (disch := first | omega | (simp; omega)) only [World.cell?_alloc_past] at hr2_0); (try simp (disch := first | omega | (simp; omega)) only [World.frozen?_alloc_past] at hs2_0); clear hc2 hf2)
  have HA := Lib.hid hargs; clear hargs
  (go_wp2_with fail; refine (HF.out w2 fb p _ HA.out).mono ?_; rintro e w3 ⟨rfl, hb3⟩; obtain ⟨hc3, hf3, hz3⟩ := ext_facts hb3; (try simp at hz3); (have hq3_0 : w.heap.size < w3.heap.size := by omega); (have hl3_0 : w.heap.size ≤ w3.heap.size := by omega); (have hr3_0 := fun o => hc3 (w.heap.size) o (by first | omega | (simp; done) | (simp; omega))); (have hs3_0 := fun o => hf3 (w.heap.size) o (by first | omega | (simp; done) | (simp; omega))); (try simp (disch := first | omega | (simp; omega)) only [World.cell?_alloc_past] at hr3_0); (try simp (disch := first | omega | (simp; omega)) only [World.frozen?_alloc_past] at hs3_0); clear hc3 hf3)
  (go_wp2_with fail; refine (HO.out _).mono ?_; rintro e w4 ⟨rfl, hb4⟩; obtain ⟨hc4, hf4, hz4⟩ := ext_facts hb4; (try simp at hz4); (have hq4_0 : w.heap.size < w4.heap.size := by omega); (have hl4_0 : w.heap.size ≤ w4.heap.size := by omega); (have hr4_0 := fun o => hc4 (w.heap.size) o (by first | omega | (simp; done) | (simp; omega))); (have hs4_0 := fun o => hf4 (w.heap.size) o (by first | omega | (simp; done) | (simp; omega))); (try simp (disch := first | omega | (simp; omega)) only [World.cell?_alloc_past] at hr4_0); (try simp (disch := first | omega | (simp; omega)) only [World.frozen?_alloc_past] at hs4_0); clear hc4 hf4)
  go_wp2
  exact bodyPost_ret (v := Iv.val z) (by simp [results, Tryz.results13, go_sem, *]) rfl ⟨rfl, (by repeat (first | with_reducible exact Below.refl _ _ | with_reducible assumption | ((with_reducible refine Below.setCell ?_ ?_ _); rotate_left; (simp; try omega)) | (with_reducible refine Ext.tr ?_ (by with_reducible assumption)) | (with_reducible refine Ext.al ?_ _) | (with_reducible refine below_drewN ?_ _) | (with_reducible refine Below.drew ?_)))⟩

set_option maxHeartbeats 800000 in
theorem impl_BITRSHIFT (xs : List Iv) (z : Iv) (b c : Nat) (w : World) (hl : xs.length ≤ 1000000000) (hne : xs ≠ []) (hx : LieI w b 0 xs)
    (hdoor : ∀ w' b' c', LieI w' b' 0 xs → Calls Tryz.prog 13 #[.slice (some ⟨b', 0, none⟩) xs.length c'] w' (Gives w' z.val)) :
    Calls Tryz.prog 5 #[.slice (some ⟨b, 0, none⟩) xs.length c] w (Gives w z.val) := by
  have HX := Lib.hid hx; clear hx
  have HD := Lib.hid hdoor; clear hdoor
  go_enter Tryz.func5, Tryz.ntmps5
  (go_wp2_with fail; refine (in_at xs b 0 c _ hl (HX.out.ext (by repeat (first | with_reducible exact Below.refl _ _ | with_reducible assumption | ((with_reducible refine Below.setCell ?_ ?_ _); rotate_left; (simp; try omega)) | (with_reducible refine Ext.tr ?_ (by with_reducible assumption)) | (with_reducible refine Ext.al ?_ _) | (with_reducible refine below_drewN ?_ _) | (with_reducible refine Below.drew ?_)))) hne).mono ?_; rintro e w1 ⟨b1, c1, rfl, hlie, hb1⟩; obtain ⟨hc1, hf1, hz1⟩ := ext_facts hb1; (try simp at hz1); (have hq1_0 : w.heap.size < w1.heap.size := by omega); (have hl1_0 : w.heap.size ≤ w1.heap.size := by omega); (have hr1_0 := fun o => hc1 (w.heap.size) o (by first | omega | (simp; done) | (simp; omega))); (have hs1_0 := fun o => hf1 (w.heap.size) o (by first | omega | (simp; done) | (simp; omega))); (try simp (disch := first | omega | (simp; omega)) only [World.cell?_alloc_past] at hr1_0); (try simp (disch := first | omega | (simp; omega)) only [World.frozen?_alloc_past] at hs1_0); clear hc1 hf1)
  have HL := Lib.hid hlie; clear hlie
  (go_wp2_with fail; refine (HD.out _ b1 c1 HL.out).mono ?_; rintro e w2 ⟨rfl, hb2⟩; obtain ⟨hc2, hf2, hz2⟩ := ext_facts hb2; (try simp at hz2); (have hq2_0 : w.heap.size < w2.heap.size := by omega); (have hl2_0 : w.heap.size ≤ w2.heap.size := by omega); (have hr2_0 := fun o => hc2 (w.heap.size) o (by first | omega | (simp; done) | (simp; omega))); (have hs2_0 := fun o => hf2 (w.heap.size) o (by first | omega | (simp; done) | (simp; omega))); (try simp (disch := first | omega | (simp; omega)) only [World.cell?_alloc_past] at hr2_0); (try simp (disch := first | omega | (simp; omega)) only [World.frozen?_alloc_past] at hs2_0); clear hc2 hf2)
  (go_wp2_with fail; refine (out_ok z _).mono ?_; rintro e w3 ⟨rfl, hb3⟩; obtain ⟨hc3, hf3, hz3⟩ := ext_facts hb3; (try simp at hz3); (have hq3_0 : w.heap.size < w3.heap.size := by omega); (have hl3_0 : w.heap.size ≤ w3.heap.size := by omega); (have hr3_0 := fun o => hc3 (w.heap.size) o (by first | omega | (simp; done) | (simp; omega))); (have hs3_0 := fun o => hf3 (w.heap.size) o (by first | omega | (simp; done) | (simp; omega))); (try simp (disch := first | omega | (simp; omega)) only [World.cell?_alloc_past] at hr3_0); (try simp (disch := first | omega | (simp; omega)) only [World.frozen?_alloc_past] at hs3_0); clear hc3 hf3)
  go_wp2
  exact bodyPost_ret (v := Iv.val z) (by simp [results, Tryz.results5, go_sem, *]) rfl ⟨rfl, (by repeat (first | with_reducible exact Below.refl _ _ | with_reducible assumption | ((with_reducible refine Below.setCell ?_ ?_ _); rotate_left; (simp; try omega)) | (with_reducible refine Ext.tr ?_ (by with_reducible assumption)) | (with_reducible refine Ext.al ?_ _) | (with_reducible refine below_drewN ?_ _) | (with_reducible refine Below.drew ?_)))⟩

theorem pack_BITRSHIFT (a1 a2 : Nat) (y : Value) (z : Iv) (t1 : Tame a1) (t2 : Tame a2) (b c : Nat) (w : World) (hx : LieI w b 0 [ivn a1, ivn a2])
    (hfn : ∀ w' fb p B, ArgsAt w' p B [fnumC a1, fnumC a2] → Calls Tryz.prog 21 #[ptr fb, ptr p] w' (Gives w' y))
    (hout : ∀ w', Calls Tryz.prog 19 #[y] w' (Gives w' z.val)) :
    Calls Tryz.prog 5 #[.slice (some ⟨b, 0, none⟩) 2 c] w (Gives w z.val) := by
  refine impl_BITRSHIFT [ivn a1, ivn a2] z b c w (by simp) (by simp) hx fun w2 b2 c2 hl2 => ?_
  refine door_BITRSHIFT (fun x => fnumC x.f) [ivn a1, ivn a2] y z b2 0 c2 w2 (by simp) hl2 (fun u w3 hu => inner_ivn u _ ?_ w3 hu) hfn hout
  intro v hv
  rcases List.mem_cons.1 hv with rfl | hv
  · exact ⟨rfl, t1⟩
  · have e : v = ivn a2 := by simpa using hv
    subst e; exact ⟨rfl, t2⟩
end Go.Proofs.YtbflllnbejmnbaaGreatDoor
