/-
  SIGN of the package.
-/
import Derived.Test.YtkhbljlnpgpaaaaGreatDoorK
import Derived.Test.YtkhbljlnpgpaaaaGreatDoorAs
import Derived.Test.YtkhbljlnpgpaaaaGreatDoorS3
namespace Go.Proofs.YtkhbljlnpgpaaaaGreatDoor
open Go Go.RowKit
set_option maxRecDepth 100000

/-- The cells of a number as formulaArg. -/
abbrev fnumC (x : Nat) : Array Value := #[.string ⟨#[]⟩, .float .f64 x, .string ⟨#[]⟩, .slice none 0 0, .slice none 0 0, .bool false, .string ⟨#[]⟩, .int .u8 1, .pointer none, .pointer none]

theorem one_f16 : (4607182418800017408 : Nat) = f16 16 := by decide
theorem mone_f16 : (13830554455654793216 : Nat) = f16 (-16) := by decide
theorem tame_zero : Tame 0 := by rw [← f16_zero]; exact tame_f16 (by omega) (by omega)
theorem tame_one : Tame 4607182418800017408 := by rw [one_f16]; exact tame_f16 (by omega) (by omega)
theorem tame_mone : Tame 13830554455654793216 := by rw [mone_f16]; exact tame_f16 (by omega) (by omega)

theorem order_zero {Z : Int} (h1 : -2 ^ 53 < Z) (h2 : Z < 2 ^ 53) : FloatKind.f64.format.order (f16 Z) 0 = some (compare Z 0) := by
  rw [show (0 : Nat) = f16 0 from f16_zero.symm]; exact order_f16 h1 h2 (by omega) (by omega)

set_option maxHeartbeats 1600000 in
theorem fn_sign (Z : Int) (fb b B : Nat) (w : World) (h1 : -2 ^ 50 < Z) (h2 : Z < 2 ^ 50) (ha : ArgsAt w b B [fnumC (f16 Z)]) :
    Calls Tryz.prog 21 #[ptr fb, ptr b] w (Gives w (fnum (f16 (16 * sgn Z)))) := by
  have HA := Lib.hid ha; clear ha
  have HT := Lib.hid (tame_f16 (Z := Z) (by omega) (by omega))
  have ho := order_zero (Z := Z) (by omega) (by omega)
  rcases Int.lt_trichotomy Z 0 with hz | hz | hz
  · have hlt : (FloatKind.f64.format.order (f16 Z) 0 == some Ordering.lt) = true := by rw [ho, cmp_lt hz]; rfl
    rw [show sgn Z = -1 from if_pos hz, show (16 : Int) * -1 = -16 from rfl, ← mone_f16]
    clear ho hz
    generalize f16 Z = x at HA HT hlt
    go_enter Tryz.func21, Tryz.ntmps21
    go_wp2_with fail
    refine (len_ok _ b B _ (HA.out.ext ((Ext.rf _).al _))).mono ?_
    rintro e w1 ⟨rfl, rfl⟩
    go_wp2_with fail
    refine (front_ok _ b B _ [] (HA.out.ext ((Ext.rf _).al _))).mono ?_
    rintro e w1 ⟨⟨n, rfl, he⟩, rfl⟩
    unfold ElemAt at he
    go_wp2_with fail
    (go_wp2_with fail; refine (toNumber_num x false _ HT.out).mono ?_; rintro e w2 ⟨rfl, hb2⟩; obtain ⟨hc2, hf2, hz2⟩ := ext_facts hb2; (try simp at hz2); (have hq2_0 : w.heap.size < w2.heap.size := by omega); (have hl2_0 : w.heap.size ≤ w2.heap.size := by omega); (have hr2_0 := fun o => hc2 (w.heap.size) o (by first | omega | (simp; done) | (simp; omega))); (have hs2_0 := fun o => hf2 (w.heap.size) o (by first | omega | (simp; done) | (simp; omega))); clear hc2 hf2)
    (go_wp2_with fail; refine (newNumber_ok _ _ tame_mone).mono ?_; rintro e w3 ⟨rfl, hb3⟩; obtain ⟨hc3, hf3, hz3⟩ := ext_facts hb3; (try simp at hz3); (have hq3_0 : w.heap.size < w3.heap.size := by omega); (have hl3_0 : w.heap.size ≤ w3.heap.size := by omega); (have hr3_0 := fun o => hc3 (w.heap.size) o (by first | omega | (simp; done) | (simp; omega))); (have hs3_0 := fun o => hf3 (w.heap.size) o (by first | omega | (simp; done) | (simp; omega))); clear hc3 hf3)
    go_wp2
    exact bodyPost_ret (v := fnum 13830554455654793216) (by simp [results, Tryz.results21, go_sem, *]) rfl ⟨rfl, (by repeat (first | with_reducible exact Below.refl _ _ | with_reducible assumption | ((with_reducible refine Below.setCell ?_ ?_ _); rotate_left; (simp; try omega)) | (with_reducible refine Ext.tr ?_ (by with_reducible assumption)) | (with_reducible refine Ext.al ?_ _) | (with_reducible refine below_drewN ?_ _) | (with_reducible refine Below.drew ?_)))⟩
  · have hlt : (FloatKind.f64.format.order (f16 Z) 0 == some Ordering.lt) = false := by rw [ho, cmp_eq hz]; rfl
    have hgt : (FloatKind.f64.format.order (f16 Z) 0 == some Ordering.gt) = false := by rw [ho, cmp_eq hz]; rfl
    rw [show sgn Z = 0 by rw [hz]; rfl, show (16 : Int) * 0 = 0 from rfl, f16_zero]
    clear ho hz
    generalize f16 Z = x at HA HT hlt hgt
    go_enter Tryz.func21, Tryz.ntmps21
    go_wp2_with fail
    refine (len_ok _ b B _ (HA.out.ext ((Ext.rf _).al _))).mono ?_
    rintro e w1 ⟨rfl, rfl⟩
    go_wp2_with fail
    refine (front_ok _ b B _ [] (HA.out.ext ((Ext.rf _).al _))).mono ?_
    rintro e w1 ⟨⟨n, rfl, he⟩, rfl⟩
    unfold ElemAt at he
    go_wp2_with fail
    (go_wp2_with fail; refine (toNumber_num x false _ HT.out).mono ?_; rintro e w2 ⟨rfl, hb2⟩; obtain ⟨hc2, hf2, hz2⟩ := ext_facts hb2; (try simp at hz2); (have hq2_0 : w.heap.size < w2.heap.size := by omega); (have hl2_0 : w.heap.size ≤ w2.heap.size := by omega); (have hr2_0 := fun o => hc2 (w.heap.size) o (by first | omega | (simp; done) | (simp; omega))); (have hs2_0 := fun o => hf2 (w.heap.size) o (by first | omega | (simp; done) | (simp; omega))); clear hc2 hf2)
    (go_wp2_with fail; refine (newNumber_ok _ _ tame_zero).mono ?_; rintro e w3 ⟨rfl, hb3⟩; obtain ⟨hc3, hf3, hz3⟩ := ext_facts hb3; (try simp at hz3); (have hq3_0 : w.heap.size < w3.heap.size := by omega); (have hl3_0 : w.heap.size ≤ w3.heap.size := by omega); (have hr3_0 := fun o => hc3 (w.heap.size) o (by first | omega | (simp; done) | (simp; omega))); (have hs3_0 := fun o => hf3 (w.heap.size) o (by first | omega | (simp; done) | (simp; omega))); clear hc3 hf3)
    go_wp2
    exact bodyPost_ret (v := fnum 0) (by simp [results, Tryz.results21, go_sem, *]) rfl ⟨rfl, (by repeat (first | with_reducible exact Below.refl _ _ | with_reducible assumption | ((with_reducible refine Below.setCell ?_ ?_ _); rotate_left; (simp; try omega)) | (with_reducible refine Ext.tr ?_ (by with_reducible assumption)) | (with_reducible refine Ext.al ?_ _) | (with_reducible refine below_drewN ?_ _) | (with_reducible refine Below.drew ?_)))⟩
  · have hlt : (FloatKind.f64.format.order (f16 Z) 0 == some Ordering.lt) = false := by rw [ho, cmp_gt hz]; rfl
    have hgt : (FloatKind.f64.format.order (f16 Z) 0 == some Ordering.gt) = true := by rw [ho, cmp_gt hz]; rfl
    rw [show sgn Z = 1 by unfold sgn; rw [if_neg (by omega), if_neg (by omega)], show (16 : Int) * 1 = 16 from rfl, ← one_f16]
    clear ho hz
    generalize f16 Z = x at HA HT hlt hgt
    go_enter Tryz.func21, Tryz.ntmps21
    go_wp2_with fail
    refine (len_ok _ b B _ (HA.out.ext ((Ext.rf _).al _))).mono ?_
    rintro e w1 ⟨rfl, rfl⟩
    go_wp2_with fail
    refine (front_ok _ b B _ [] (HA.out.ext ((Ext.rf _).al _))).mono ?_
    rintro e w1 ⟨⟨n, rfl, he⟩, rfl⟩
    unfold ElemAt at he
    go_wp2_with fail
    (go_wp2_with fail; refine (toNumber_num x false _ HT.out).mono ?_; rintro e w2 ⟨rfl, hb2⟩; obtain ⟨hc2, hf2, hz2⟩ := ext_facts hb2; (try simp at hz2); (have hq2_0 : w.heap.size < w2.heap.size := by omega); (have hl2_0 : w.heap.size ≤ w2.heap.size := by omega); (have hr2_0 := fun o => hc2 (w.heap.size) o (by first | omega | (simp; done) | (simp; omega))); (have hs2_0 := fun o => hf2 (w.heap.size) o (by first | omega | (simp; done) | (simp; omega))); clear hc2 hf2)
    (go_wp2_with fail; refine (newNumber_ok _ _ tame_one).mono ?_; rintro e w3 ⟨rfl, hb3⟩; obtain ⟨hc3, hf3, hz3⟩ := ext_facts hb3; (try simp at hz3); (have hq3_0 : w.heap.size < w3.heap.size := by omega); (have hl3_0 : w.heap.size ≤ w3.heap.size := by omega); (have hr3_0 := fun o => hc3 (w.heap.size) o (by first | omega | (simp; done) | (simp; omega))); (have hs3_0 := fun o => hf3 (w.heap.size) o (by first | omega | (simp; done) | (simp; omega))); clear hc3 hf3)
    go_wp2
    exact bodyPost_ret (v := fnum 4607182418800017408) (by simp [results, Tryz.results21, go_sem, *]) rfl ⟨rfl, (by repeat (first | with_reducible exact Below.refl _ _ | with_reducible assumption | ((with_reducible refine Below.setCell ?_ ?_ _); rotate_left; (simp; try omega)) | (with_reducible refine Ext.tr ?_ (by with_reducible assumption)) | (with_reducible refine Ext.al ?_ _) | (with_reducible refine below_drewN ?_ _) | (with_reducible refine Below.drew ?_)))⟩

set_option maxHeartbeats 800000 in
theorem door_sign (Z : Int) (b o c : Nat) (w : World) (h1 : -2 ^ 50 < Z) (h2 : Z < 2 ^ 50) (hx : LieI w b o [⟨1, f16 Z, ⟨#[]⟩⟩]) :
    Calls Tryz.prog 13 #[.slice (some ⟨b, o, none⟩) 1 c] w (Gives w (.agg #[.int .i64 1, .float .f64 (f16 (16 * sgn Z)), .string ⟨#[]⟩, .slice none 0 0])) := by
  have HX := Lib.hid hx; clear hx
  go_enter Tryz.func13, Tryz.ntmps13
  (go_wp2_with fail; refine (doorFuncs_any _).mono ?_; rintro e w1 ⟨⟨fb, rfl⟩, hb1⟩; obtain ⟨hc1, hf1, hz1⟩ := ext_facts hb1; (try simp at hz1); (have hq1_0 : w.heap.size < w1.heap.size := by omega); (have hl1_0 : w.heap.size ≤ w1.heap.size := by omega); (have hr1_0 := fun o => hc1 (w.heap.size) o (by first | omega | (simp; done) | (simp; omega))); (have hs1_0 := fun o => hf1 (w.heap.size) o (by first | omega | (simp; done) | (simp; omega))); clear hc1 hf1)
  (go_wp2_with fail; refine ((innerList_ok (fun x => fnumC x.f) [⟨1, f16 Z, ⟨#[]⟩⟩] b o c _ (by simp) (HX.out.ext (by repeat (first | with_reducible exact Below.refl _ _ | with_reducible assumption | ((with_reducible refine Below.setCell ?_ ?_ _); rotate_left; (simp; try omega)) | (with_reducible refine Ext.tr ?_ (by with_reducible assumption)) | (with_reducible refine Ext.al ?_ _) | (with_reducible refine below_drewN ?_ _) | (with_reducible refine Below.drew ?_)))) (fun x w' hm => by
    have e : x = ⟨1, f16 Z, ⟨#[]⟩⟩ := by simpa using hm
    subst e; exact innerArg_num _ w' (tame_f16 (by omega) (by omega))))).mono ?_; rintro e w2 ⟨p, rfl, hargs, hb2⟩; obtain ⟨hc2, hf2, hz2⟩ := ext_facts hb2; (try simp at hz2); (have hq2_0 : w.heap.size < w2.heap.size := by omega); (have hl2_0 : w.heap.size ≤ w2.heap.size := by omega); (have hr2_0 := fun o => hc2 (w.heap.size) o (by first | omega | (simp; done) | (simp; omega))); (have hs2_0 := fun o => hf2 (w.heap.size) o (by first | omega | (simp; done) | (simp; omega))); clear hc2 hf2)
  have HA := Lib.hid hargs; clear hargs
  (go_wp2_with fail; refine (fn_sign Z fb p _ w2 h1 h2 HA.out).mono ?_; rintro e w3 ⟨rfl, hb3⟩; obtain ⟨hc3, hf3, hz3⟩ := ext_facts hb3; (try simp at hz3); (have hq3_0 : w.heap.size < w3.heap.size := by omega); (have hl3_0 : w.heap.size ≤ w3.heap.size := by omega); (have hr3_0 := fun o => hc3 (w.heap.size) o (by first | omega | (simp; done) | (simp; omega))); (have hs3_0 := fun o => hf3 (w.heap.size) o (by first | omega | (simp; done) | (simp; omega))); clear hc3 hf3)
  (go_wp2_with fail; refine (doorArg_num _ _).mono ?_; rintro e w4 ⟨rfl, hb4⟩; obtain ⟨hc4, hf4, hz4⟩ := ext_facts hb4; (try simp at hz4); (have hq4_0 : w.heap.size < w4.heap.size := by omega); (have hl4_0 : w.heap.size ≤ w4.heap.size := by omega); (have hr4_0 := fun o => hc4 (w.heap.size) o (by first | omega | (simp; done) | (simp; omega))); (have hs4_0 := fun o => hf4 (w.heap.size) o (by first | omega | (simp; done) | (simp; omega))); clear hc4 hf4)
  go_wp2
  exact bodyPost_ret (v := .agg #[.int .i64 1, .float .f64 (f16 (16 * sgn Z)), .string ⟨#[]⟩, .slice none 0 0]) (by simp [results, Tryz.results13, go_sem, *]) rfl ⟨rfl, (by repeat (first | with_reducible exact Below.refl _ _ | with_reducible assumption | ((with_reducible refine Below.setCell ?_ ?_ _); rotate_left; (simp; try omega)) | (with_reducible refine Ext.tr ?_ (by with_reducible assumption)) | (with_reducible refine Ext.al ?_ _) | (with_reducible refine below_drewN ?_ _) | (with_reducible refine Below.drew ?_)))⟩

set_option maxHeartbeats 800000 in
theorem impl_sign (Z : Int) (b c : Nat) (w : World) (h1 : -2 ^ 50 < Z) (h2 : Z < 2 ^ 50) (hx : LieI w b 0 [⟨1, f16 Z, ⟨#[]⟩⟩]) :
    Calls Tryz.prog 5 #[.slice (some ⟨b, 0, none⟩) 1 c] w (Gives w (Iv.val ⟨1, f16 (16 * sgn Z), ⟨#[]⟩⟩)) := by
  have HX := Lib.hid hx; clear hx
  go_enter Tryz.func5, Tryz.ntmps5
  (go_wp2_with fail; refine (in_at [⟨1, f16 Z, ⟨#[]⟩⟩] b 0 c _ (by simp) (HX.out.ext (by repeat (first | with_reducible exact Below.refl _ _ | with_reducible assumption | ((with_reducible refine Below.setCell ?_ ?_ _); rotate_left; (simp; try omega)) | (with_reducible refine Ext.tr ?_ (by with_reducible assumption)) | (with_reducible refine Ext.al ?_ _) | (with_reducible refine below_drewN ?_ _) | (with_reducible refine Below.drew ?_)))) (by simp)).mono ?_; rintro e w1 ⟨b1, c1, rfl, hlie, hb1⟩; obtain ⟨hc1, hf1, hz1⟩ := ext_facts hb1; (try simp at hz1); (have hq1_0 : w.heap.size < w1.heap.size := by omega); (have hl1_0 : w.heap.size ≤ w1.heap.size := by omega); (have hr1_0 := fun o => hc1 (w.heap.size) o (by first | omega | (simp; done) | (simp; omega))); (have hs1_0 := fun o => hf1 (w.heap.size) o (by first | omega | (simp; done) | (simp; omega))); clear hc1 hf1)
  have HL := Lib.hid hlie; clear hlie
  (go_wp2_with fail; refine (door_sign Z b1 0 c1 _ h1 h2 HL.out).mono ?_; rintro e w2 ⟨rfl, hb2⟩; obtain ⟨hc2, hf2, hz2⟩ := ext_facts hb2; (try simp at hz2); (have hq2_0 : w.heap.size < w2.heap.size := by omega); (have hl2_0 : w.heap.size ≤ w2.heap.size := by omega); (have hr2_0 := fun o => hc2 (w.heap.size) o (by first | omega | (simp; done) | (simp; omega))); (have hs2_0 := fun o => hf2 (w.heap.size) o (by first | omega | (simp; done) | (simp; omega))); clear hc2 hf2)
  (go_wp2_with fail; refine (out_ok ⟨1, f16 (16 * sgn Z), ⟨#[]⟩⟩ _).mono ?_; rintro e w3 ⟨rfl, hb3⟩; obtain ⟨hc3, hf3, hz3⟩ := ext_facts hb3; (try simp at hz3); (have hq3_0 : w.heap.size < w3.heap.size := by omega); (have hl3_0 : w.heap.size ≤ w3.heap.size := by omega); (have hr3_0 := fun o => hc3 (w.heap.size) o (by first | omega | (simp; done) | (simp; omega))); (have hs3_0 := fun o => hf3 (w.heap.size) o (by first | omega | (simp; done) | (simp; omega))); clear hc3 hf3)
  go_wp2
  exact bodyPost_ret (v := Iv.val ⟨1, f16 (16 * sgn Z), ⟨#[]⟩⟩) (by simp [results, Tryz.results5, go_sem, *]) rfl ⟨rfl, (by repeat (first | with_reducible exact Below.refl _ _ | with_reducible assumption | ((with_reducible refine Below.setCell ?_ ?_ _); rotate_left; (simp; try omega)) | (with_reducible refine Ext.tr ?_ (by with_reducible assumption)) | (with_reducible refine Ext.al ?_ _) | (with_reducible refine below_drewN ?_ _) | (with_reducible refine Below.drew ?_)))⟩
end Go.Proofs.YtkhbljlnpgpaaaaGreatDoor
