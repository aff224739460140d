/-
  FnSumproduct: what the call comes to.
-/
import Derived.Test.YtdakljeladhciaaGreatDoorSy
namespace Go.Proofs.YtdakljeladhciaaGreatDoor
set_option linter.unusedSimpArgs false
set_option linter.unusedVariables false
open Go Go.RowKit
set_option maxRecDepth 100000

theorem mat_at {m : Mc} {r : List (List Sc)} {w : World} {b o L H : Nat} (h5 : At5m w b o m) (hv : VtR L H w (m, .mat r)) (hH : H ≤ w.heap.size) (ht : TabOk r) :
    ∃ bm c C, m = ⟨5, 0, 0, ⟨#[]⟩, some ⟨bm, 0, none⟩, r.length, c⟩ ∧ MatAt w b o bm c L H r C := by
  obtain ⟨C, h1, h2, h3, h4, hcol, _⟩ := ht
  obtain ⟨_, _, _, bm, c, e, _, _, hml⟩ := hv
  have e : m = ⟨5, 0, 0, ⟨#[]⟩, some ⟨bm, 0, none⟩, r.length, c⟩ := e
  subst e
  have hi := (TabOk.flat ⟨C, h1, h2, h3, h4, hcol, by assumption⟩).2.2
  exact ⟨bm, c, C, rfl, ⟨h5, hml, h3, h4, hcol, h1, h2, hH, hi⟩⟩

abbrev args2 (m1 m2 : Mc) (r1 r2 : List (List Sc)) : List (Mc × Vt Sc) := [(m1, .mat r1), (m2, .mat r2)]

theorem agrees_sp (m1 m2 : Mc) (r1 r2 : List (List Sc)) (b c : Nat) (w : World) (hx : ArgsIn w b 0 (args2 m1 m2 r1 r2)) (hc : 2 ≤ c) (ht1 : TabOk r1) (ht2 : TabOk r2) :
    Calls Tryz.prog 5 #[.func (.func 6) #[] #[], .string ⟨#[83, 85, 77, 80, 82, 79, 68, 85, 67, 84]⟩, .slice (some ⟨b, 0, none⟩) 2 c] w (Gives w (.bool true)) := by
  obtain ⟨hf1, hl1, hi1⟩ := ht1.flat
  obtain ⟨hf2, hl2, hi2⟩ := ht2.flat
  have hflat : flatOf (args2 m1 m2 r1 r2) = r1.flatten ++ r2.flatten := by simp [flatOf, Vt.flat]
  have hmats : ∃ b1 b2 c1 c2 C1 C2 L1 H1 L2 H2, m1 = ⟨5, 0, 0, ⟨#[]⟩, some ⟨b1, 0, none⟩, r1.length, c1⟩ ∧ MatAt w b 0 b1 c1 L1 H1 r1 C1 ∧ MatAt w b 5 b2 c2 L2 H2 r2 C2 := by
    obtain ⟨L1, H1, hH1, hv1⟩ := hx.2 0 _ rfl
    obtain ⟨L2, H2, hH2, hv2⟩ := hx.2 1 _ rfl
    obtain ⟨b1, c1, C1, e1, q1⟩ := mat_at (hx.at5 (i := 0) rfl) hv1 hH1 ht1
    obtain ⟨b2, c2, C2, e2, q2⟩ := mat_at (hx.at5 (i := 1) rfl) hv2 hH2 ht2
    exact ⟨b1, b2, c1, c2, C1, C2, L1, H1, L2, H2, e1, q1, q2⟩
  obtain ⟨b1, b2, c1, c2, C1, C2, L1, H1, L2, H2, hm1, hM1, hM2⟩ := hmats
  refine agrees_vt 6 (fun args w => Tryz.call6 args w) (SpP r1 r2)
    (fun w b => ∃ zs, zs.length = 2 ∧ ArgsIv w b 0 zs ∧ vts zs = [.mat (r1.map (List.map gI)), .mat (r2.map (List.map gI))]) ⟨#[83, 85, 77, 80, 82, 79, 68, 85, 67, 84]⟩ (args2 m1 m2 r1 r2) 2 rfl b c w hx ?_ (by simp) ?_ ?_ ?_ ?_ ?_
  · rw [hflat]; intro h0
    exact hf1 (List.append_eq_nil_iff.1 h0).1
  · rw [hflat, List.length_append]; omega
  · intro w' hw'
    refine call_stat ⟨#[83, 85, 77, 80, 82, 79, 68, 85, 67, 84]⟩ _ _ _ _ w' (fun w2 hw2 => ?_) (fun w2 hw2 => ?_)
    · refine fits_of_others _ _ _ _ w2 (fun w3 hw3 => ?_) (fun w3 => fitsTexts_SUMPRODUCT _ _ _ w3) (fun w3 => fitsChoices_SUMPRODUCT _ _ _ w3) (fun w3 => others_SP w3)
      exact fitsNumbers_SP _ _ _ _ _ _ b 0 2 c w3 (by omega) (hM1.ext ((hw'.tr hw2).tr hw3)).at5
    · exact stat_sp r1 r2 b b1 b2 c c1 c2 C1 C2 L1 H1 L2 H2 w2 (hM1.ext (hw'.tr hw2)) (hM2.ext (hw'.tr hw2)) hc
  · rintro want (rfl | ⟨_, _, ⟨_, rfl⟩ | ⟨_, _, h, _⟩⟩)
    · decide
    · decide
    · rw [h.k]; decide
  · intro w' hw'
    have h := all_vt gI (args2 m1 m2 r1 r2) b c w' (by simp) (hx.ext hw') (by simp) (fun y hy => by
      rcases List.mem_cons.1 hy with rfl | hy
      · intro row hr x hxr w2
        exact of_item x (hi1 x (List.mem_flatten.2 ⟨row, hr, hxr⟩)) w2
      · rw [List.mem_singleton.1 hy]
        intro row hr x hxr w2
        exact of_item x (hi2 x (List.mem_flatten.2 ⟨row, hr, hxr⟩)) w2)
    refine h.mono ?_
    rintro e w2 ⟨b', c', zs, rfl, h1, h2, h3⟩
    refine ⟨b', c', rfl, ⟨zs, ?_, h1, h2⟩, h3⟩
    have := congrArg List.length h2
    simpa [vts] using this
  · intro _ want hw h6
    rcases hw with rfl | ⟨hk1, hk2, hw⟩
    · exact absurd rfl h6
    have hc1 : ∀ x ∈ r1.flatten, CellN x := fun x hxm => cell_of_item (hi1 x hxm) (List.all_eq_true.1 hk1 x hxm)
    have hc2 : ∀ x ∈ r2.flatten, CellN x := fun x hxm => cell_of_item (hi2 x hxm) (List.all_eq_true.1 hk2 x hxm)
    have hg1 : (r1.map (List.map gI)).flatten = r1.flatten.map gI := List.map_flatten.symm
    have hg2 : (r2.map (List.map gI)).flatten = r2.flatten.map gI := List.map_flatten.symm
    have hok1 : ∀ y ∈ (r1.map (List.map gI)).flatten, IvOk y := by
      intro y hy
      rw [hg1] at hy
      obtain ⟨x, hxm, rfl⟩ := List.mem_map.1 hy
      exact gI_ok (hc1 x hxm)
    have hok2 : ∀ y ∈ (r2.map (List.map gI)).flatten, IvOk y := by
      intro y hy
      rw [hg2] at hy
      obtain ⟨x, hxm, rfl⟩ := List.mem_map.1 hy
      exact gI_ok (hc2 x hxm)
    have hn1 : (r1.map (List.map gI)).flatten.length = r1.flatten.length := by rw [hg1, List.length_map]
    have hn2 : (r2.map (List.map gI)).flatten.length = r2.flatten.length := by rw [hg2, List.length_map]
    rcases hw with ⟨hne, rfl⟩ | ⟨he, hp, hn, ht, hs⟩
    · refine ⟨⟨4, 0, ⟨#[35, 86, 65, 76, 85, 69, 33]⟩⟩, (show FloatKind.f64.format.order 0 0 = some Ordering.eq by decide), fun w' => of_err _ w', ?_⟩
      rintro w' b' c' _ ⟨zs, hzl, hza, hzv⟩
      have h := impl_sp zs 2 hzl.symm (r1.map (List.map gI)) (r2.map (List.map gI)) _ _ (w1 r1.flatten) (fun _ => 0) (fun _ => 0) b' c' w' (by omega) hza hzv hok1 hok2 hn1 hn2 (by omega) (by omega)
        (fun i y hy => first_words hc1 i y (by rwa [hg1] at hy)) (fun h0 => absurd h0 hne) (fun h0 => absurd h0 hne)
      rwa [show spRes r1.flatten.length r2.flatten.length ((fun _ => (0 : Int)) r1.flatten.length) = ⟨4, 0, ⟨#[35, 86, 65, 76, 85, 69, 33]⟩⟩ from if_neg hne] at h
    · have hb := hn.six_le
      have hsum := sums_words he (by omega) hp
      have hlast : sumP ((List.zip r1.flatten r2.flatten).take r1.flatten.length) = six want := by
        rw [List.take_of_length_le (by rw [List.length_zip]; omega), hs]
      refine ⟨gI want, ?_, fun w' => of_item want (Or.inr (Or.inl ⟨_, Or.inl ⟨hn, ht, rfl⟩⟩)) w', ?_⟩
      · rw [gI_num hn]; exact (tame_f16 (by omega) (by omega)).self
      · rintro w' b' c' _ ⟨zs, hzl, hza, hzv⟩
        have h := impl_sp zs 2 hzl.symm (r1.map (List.map gI)) (r2.map (List.map gI)) _ _ (w1 r1.flatten) (w2 r1.flatten r2.flatten) (fun k => sumP ((List.zip r1.flatten r2.flatten).take k)) b' c' w' (by omega) hza hzv hok1 hok2 hn1 hn2 (by omega) (by omega)
          (fun i y hy => first_words hc1 i y (by rwa [hg1] at hy)) (fun _ i y hy => second_words he hc2 hp i y (by rwa [hg2] at hy)) (fun _ => hsum)
        rwa [show spRes r1.flatten.length r2.flatten.length ((fun k => sumP ((List.zip r1.flatten r2.flatten).take k)) r1.flatten.length) = gI want by
          unfold spRes; rw [if_pos he, gI_num hn]
          show (⟨1, f16 (sumP ((List.zip r1.flatten r2.flatten).take r1.flatten.length)), ⟨#[]⟩⟩ : Iv) = _
          rw [hlast]] at h

/-- Two matrices, just laid. -/
theorem two_new (w : World) (m1 m2 : Mc) (y1 y2 : Vt Sc) (t : TypeId) :
    GLie vtCells 5 (w.alloc (.cells #[.int .i64 m1.k, .int .i64 m1.n, .int .i64 m1.d, .string m1.t, .slice m1.ra m1.rl m1.rc, .int .i64 m2.k, .int .i64 m2.n, .int .i64 m2.d, .string m2.t, .slice m2.ra m2.rl m2.rc] t)) w.heap.size 0 [(m1, y1), (m2, y2)] := by
  intro i x hx j u hu
  have hj : j < 5 := by
    apply Classical.byContradiction
    intro hn
    rw [List.getElem?_eq_none (by rw [vtCells_len]; omega)] at hu
    cases hu
  match i, hx with
  | 0, hx =>
    have e : (m1, y1) = x := by simpa using hx
    subst e
    rcases (show j = 0 ∨ j = 1 ∨ j = 2 ∨ j = 3 ∨ j = 4 by omega) with rfl | rfl | rfl | rfl | rfl <;> (simp [vtCells, Mc.cells] at hu; subst hu; simp [go_sem])
  | 1, hx =>
    have e : (m2, y2) = x := by simpa using hx
    subst e
    rcases (show j = 0 ∨ j = 1 ∨ j = 2 ∨ j = 3 ∨ j = 4 by omega) with rfl | rfl | rfl | rfl | rfl <;> (simp [vtCells, Mc.cells] at hu; subst hu; simp [go_sem])

set_option maxHeartbeats 1600000 in
theorem FnSumproduct.law_of (xs ys : List It) (a ay : Option Addr) (c cy : Nat) (cols width : Int) (w : World) (hx : ItAt w a xs) (hcc : xs.length ≤ c) (hcm : c ≤ maxLen) (hy : ItAt w ay ys) (hyc : ys.length ≤ cy) (hym : cy ≤ maxLen) :
    Calls Tryz.prog 3 #[.slice a xs.length c, .slice ay ys.length cy, .int .i64 cols, .int .i64 width] w fun e w' => e = .returned (.bool true) ∧ Below w.heap.size w w' := by
  have HZ1 := Lib.hid (fun (w' : World) (hw : Ext w w') => zzFits1_ok xs a c w' (hx.ext hw) (by omega))
  have HZ2 := Lib.hid (fun (w' : World) (hw : Ext w w') => zzFits1_ok ys ay cy w' (hy.ext hw) (by omega))
  have HT1 := Lib.hid (fun (w' : World) (hw : Ext w w') => table_any' xs a c cols w' (hx.ext hw) hcc hcm)
  have HT2 := Lib.hid (fun (w' : World) (hw : Ext w w') => table_any' ys ay cy width w' (hy.ext hw) hyc hym)
  have HA := Lib.hid (fun (w' : World) m1 m2 r1 r2 b (h1 : ArgsIn w' b 0 (args2 m1 m2 r1 r2)) h3 h4 => agrees_sp m1 m2 r1 r2 b 2 w' h1 (by omega) h3 h4)
  clear hx hy hcc hcm hyc hym
  go_enter Tryz.func3, Tryz.ntmps3
  go_wp2_with fail
  refine (HZ1.out _ (Ext.rf _)).mono ?_
  rintro e w1 ⟨r1, rfl, hb1⟩
  cases r1
  · go_wp2
    go_ret
    exact ⟨rfl, hb1⟩
  · go_wp2_with fail
    refine (HZ2.out _ hb1).mono ?_
    rintro e w2 ⟨r2, rfl, hb2⟩
    have hb12 : Ext w w2 := hb1.tr hb2
    cases r2
    · go_wp2
      go_ret
      exact ⟨rfl, hb12⟩
    · go_wp2_with fail
      refine (HT1.out _ hb12).mono ?_
      rintro e w3 ⟨m1, rows1, rfl, hv1, ht1, hb3⟩
      have hb13 : Ext w w3 := hb12.tr hb3
      have HV1 := Lib.hid hv1; have HK1 := Lib.hid ht1
      clear hv1 ht1
      go_wp2_with fail
      refine (HT2.out _ hb13).mono ?_
      rintro e w4 ⟨m2, rows2, rfl, hv2, ht2, hb4⟩
      have hb14 : Ext w w4 := hb13.tr hb4
      have HV2 := Lib.hid hv2; have HK2 := Lib.hid ht2
      clear hv2 ht2
      have hargs : ArgsIn (w4.alloc (.cells #[.int .i64 m1.k, .int .i64 m1.n, .int .i64 m1.d, .string m1.t, .slice m1.ra m1.rl m1.rc, .int .i64 m2.k, .int .i64 m2.n, .int .i64 m2.d, .string m2.t, .slice m2.ra m2.rl m2.rc] 28)) w4.heap.size 0 (args2 m1 m2 rows1 rows2) := by
        refine ⟨two_new w4 m1 m2 _ _ _, fun i y hi => ?_⟩
        match i, hi with
        | 0, hi =>
          have e : (m1, Vt.mat rows1) = y := by simpa using hi
          subst e
          exact ⟨w2.heap.size + 1, w3.heap.size, by have := hb4.size; simp; omega, vtR_hangs _ _ w3 _ _ HV1.out (fun k h1 h2 => (Ext.al hb4 _).block k h2)⟩
        | 1, hi =>
          have e : (m2, Vt.mat rows2) = y := by simpa using hi
          subst e
          exact ⟨w3.heap.size + 1, w4.heap.size, by simp, vtR_hangs _ _ w4 _ _ HV2.out (fun k h1 h2 => (Ext.al (Ext.rf w4) _).block k h2)⟩
      have HAG := Lib.hid (HA.out _ m1 m2 rows1 rows2 _ hargs HK1.out HK2.out)
      clear hargs
      obtain ⟨k1, n1, d1, t1, ra1, rl1, rc1⟩ := m1
      obtain ⟨k2, n2, d2, t2, ra2, rl2, rc2⟩ := m2
      go_wp2_with fail
      refine (HAG.out).mono ?_
      rintro e w5 ⟨rfl, hb5⟩
      have hb15 : Ext w w5 := (Ext.al hb14 _).tr hb5
      go_wp2
      go_ret
      exact ⟨rfl, hb15⟩
end Go.Proofs.YtdakljeladhciaaGreatDoor
