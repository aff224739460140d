/-
  FnMax: what the call comes to.
-/
import Derived.Test.YtbehdafigmlnfaaGreatDoorMz
namespace Go.Proofs.YtbehdafigmlnfaaGreatDoor
set_option linter.unusedSimpArgs false
set_option linter.unusedVariables false
open Go Go.RowKit
set_option maxRecDepth 100000

theorem agrees_max (m : Mc) (rows : List (List Sc)) (xs : List Sc) (b c : Nat) (w : World) (hx : ArgsIn w b 0 (lawArgs m rows xs)) (hc : 1 + xs.length ≤ c) (htab : TabOk rows) (hl : xs.length ≤ 10) (hi : ∀ x ∈ xs, ItemSc x) :
    Calls Tryz.prog 5 #[.func (.func 6) #[] #[], .string ⟨#[77, 65, 88]⟩, .slice (some ⟨b, 0, none⟩) (1 + xs.length) c] w (Gives w (.bool true)) := by
  obtain ⟨hfne, hfl, hfi⟩ := htab.flat
  have hlen : (lawArgs m rows xs).length = 1 + xs.length := by rw [List.length_cons, List.length_map]; omega
  have hm5 : ∃ n d t a r rc, m = ⟨5, n, d, t, a, r, rc⟩ := by
    obtain ⟨L, H, _, _, _, _, b', c', e, _⟩ := hx.2 0 _ rfl
    exact ⟨_, _, _, _, _, _, e⟩
  have h3 : ∀ y ∈ lawArgs m rows xs, ∀ x, y.2 = .sc x → x.k = 3 → x.n = 0 ∨ x.n = 1 := by
    intro y hy x he hk
    rcases List.mem_cons.1 hy with rfl | hy
    · cases he
    · obtain ⟨z, hz, rfl⟩ := List.mem_map.1 hy
      have e : z = x := by injection he
      subst e
      exact (hi z hz).log hk
  have hN : ∀ y ∈ lawArgs m rows xs, (outArg y.2).length ≤ 1000 := by
    intro y hy
    rcases List.mem_cons.1 hy with rfl | hy
    · exact Nat.le_trans (List.length_filter_le _ _) (by omega)
    · obtain ⟨z, hz, rfl⟩ := List.mem_map.1 hy
      exact (by show 1 ≤ 1000; omega)
  have hokx : ((lawArgs m rows xs).all fun y => okArg y.2) = true → ∀ x ∈ xs, (x.k == 1 || x.k == 3 || x.k == 4) = true := by
    intro h x hxm
    rw [List.all_cons, Bool.and_eq_true] at h
    exact List.all_eq_true.1 h.2 (x.mc, .sc x) (List.mem_map.2 ⟨x, hxm, rfl⟩)
  have hbad4 : ∀ q, badOf (lawArgs m rows xs) = some q → q ∈ xs ∧ q.k = 4 := by
    intro q hq
    rw [badOf_law] at hq
    exact ⟨List.mem_of_find?_eq_some hq, by simpa using List.find?_some hq⟩
  have hk : ((lawArgs m rows xs).all fun y => okArg y.2) = true → badOf (lawArgs m rows xs) = none → ∀ x ∈ outsOf (lawArgs m rows xs), NumK x ∧ x.t = ⟨#[]⟩ := by
    intro h1 h2 x hxm
    rw [outsOf_law] at hxm
    rcases List.mem_append.1 hxm with hxm | hxm
    · obtain ⟨q1, q2⟩ := List.mem_filter.1 hxm
      exact (hfi x q1).num (by simpa using q2)
    · obtain ⟨z, hz, rfl⟩ := List.mem_map.1 hxm
      have hzk := hokx h1 z hz
      rw [badOf_law] at h2
      have hz4 := List.find?_eq_none.1 h2 z hz
      by_cases k1 : z.k = 1
      · rw [show ownOf z = z from if_pos k1]; exact (hi z hz).num k1
      · have k3 : z.k = 3 := by
          simp only [Bool.or_eq_true, beq_iff_eq] at hzk
          simp only [decide_eq_true_eq] at hz4
          omega
        rw [show ownOf z = truSc z.n by unfold ownOf; rw [if_neg k1, if_pos k3]]
        have := (hi z hz).log k3
        exact ⟨⟨rfl, Or.inl rfl, by show -99999999999 ≤ z.n; omega, by show z.n ≤ 99999999999; omega⟩, rfl⟩
  refine agrees_vt 6 (fun args w => Tryz.call6 args w) (FoldP (lawArgs m rows xs) (MaxP (outsOf (lawArgs m rows xs))))
    (fun w b => ∃ zs, zs.length = 1 + xs.length ∧ ArgsIv w b 0 zs ∧ vts zs = (vts (lawArgs m rows xs)).map (Vt.map gI)) ⟨#[77, 65, 88]⟩ (lawArgs m rows xs) (1 + xs.length) hlen.symm b c w hx ?_ (by omega) ?_ ?_ ?_ ?_ ?_
  · rw [flatOf_law]; intro h0
    exact hfne (List.append_eq_nil_iff.1 h0).1
  · rw [flatOf_law, List.length_append]; omega
  · intro w' hw'
    refine call_stat ⟨#[77, 65, 88]⟩ _ _ _ _ w' (fun w2 hw2 => ?_) (fun w2 hw2 => ?_)
    · refine fits_of_others _ _ _ _ w2 (fun w3 hw3 => ?_) (fun w3 => fitsTexts_MAX _ _ _ w3) (fun w3 => fitsChoices_MAX _ _ _ w3) (fun w3 => others_MAX w3)
      have h5 := (hx.ext ((hw'.tr hw2).tr hw3)).at5 (i := 0) rfl
      obtain ⟨n, d, t, a, r, rc, e⟩ := hm5
      rw [show ((m, Vt.mat rows) : Mc × Vt Sc).1 = m from rfl, e] at h5
      exact fitsNumbers_MAX n d t a r rc b 0 _ c w3 (by omega) h5
    · have h := stat_max (lawArgs m rows xs) b 0 c w2 (by omega) (by simp) (by omega) (hx.ext (hw'.tr hw2)) h3 hN hk
      rwa [hlen] at h
  · rintro want (⟨_, rfl⟩ | ⟨hokk, ⟨q, hq, rfl⟩ | ⟨hbn, h⟩⟩)
    · decide
    · rw [(hbad4 _ hq).2]; decide
    · rcases h with ⟨_, rfl⟩ | ⟨hm, _⟩
      · decide
      · rw [(hk hokk hbn want hm).1.k]; decide
  · intro w' hw'
    have h := all_vt gI (lawArgs m rows xs) b c w' (by omega) (hx.ext hw') (by simp) (fun y hy => by
      rcases List.mem_cons.1 hy with rfl | hy
      · intro row hr x hxr w2
        exact of_item x (hfi x (List.mem_flatten.2 ⟨row, hr, hxr⟩)) w2
      · obtain ⟨z, hz, rfl⟩ := List.mem_map.1 hy
        intro w2
        exact of_item z (hi z hz) w2)
    rw [hlen] at h
    refine h.mono ?_
    rintro e w2 ⟨b', c', zs, rfl, h1, h2, h3⟩
    refine ⟨b', c', rfl, ⟨zs, ?_, h1, h2⟩, h3⟩
    have := congrArg List.length h2
    simp only [vts, List.length_map] at this
    rw [this]; omega
  · intro hu want hw h6
    have hu6 : ∀ x ∈ rows.flatten ++ xs, x.k ≠ 6 := by
      intro x hxm h6
      rw [flatOf_law, List.any_eq_false] at hu
      exact hu x hxm (by simp [h6])
    rcases hw with ⟨_, rfl⟩ | ⟨hok, hw⟩
    · exact absurd rfl h6
    have hcell : ∀ y ∈ (rows.map (List.map gI)).flatten, IvOk y ∧ Mz y (zfM y) := by
      intro y hy
      rw [← List.map_flatten] at hy
      obtain ⟨x, hxm, rfl⟩ := List.mem_map.1 hy
      have h := item_cellM x (hfi x hxm) (hu6 x (List.mem_append_left _ hxm))
      exact ⟨h.1, h.2.1⟩
    have hsing : ∀ y ∈ xs.map gI, SingOk y (zxI y) := by
      intro y hy
      obtain ⟨x, hxm, rfl⟩ := List.mem_map.1 hy
      exact (item_single x (hi x hxm) (hokx hok x hxm)).1
    have hivs : ∀ y ∈ xs.map gI, IvOk y := by
      intro y hy
      obtain ⟨x, hxm, rfl⟩ := List.mem_map.1 hy
      exact (item_cellM x (hi x hxm) (hu6 x (List.mem_append_right _ hxm))).1
    have hflm : ((rows.map (List.map gI)).flatten).length ≤ 1000 := by rw [← List.map_flatten, List.length_map]; omega
    have hvts : (vts (lawArgs m rows xs)).map (Vt.map gI) = .mat (rows.map (List.map gI)) :: (xs.map gI).map .sc := by
      show Vt.map gI (.mat rows) :: ((xs.map fun x => (x.mc, Vt.sc x)).map Prod.snd).map (Vt.map gI) = _
      rw [List.map_map, List.map_map, List.map_map]
      rfl
    have himpl : ∀ w' b' c', Ext w w' → (∃ zs, zs.length = 1 + xs.length ∧ ArgsIv w' b' 0 zs ∧ vts zs = (vts (lawArgs m rows xs)).map (Vt.map gI)) →
        Calls Tryz.prog 6 #[.slice (some ⟨b', 0, none⟩) (1 + xs.length) c'] w' (Gives w' (sumRes (xs.map gI) (maxT zfM zxI ((rows.map (List.map gI)).flatten) (xs.map gI))).val) := by
      rintro w' b' c' _ ⟨zs, hzl, hza, hzv⟩
      exact impl_max zs (1 + xs.length) hzl.symm _ _ zfM zxI b' c' w' (by omega) hza (hzv.trans hvts) (by rw [List.length_map]; omega) hivs hcell hsing hflm
    rcases hw with ⟨q, hq, rfl⟩ | ⟨hbn, hw⟩
    · obtain ⟨hqm, hq4⟩ := hbad4 _ hq
      have hg := (item_single want (hi want hqm) (hokx hok want hqm)).2.2.1 hq4
      have hfind : (xs.map gI).find? (fun x => x.k == 4) = some (gI want) := by
        rw [List.find?_map]
        have e : xs.find? ((fun x : Iv => x.k == 4) ∘ gI) = xs.find? fun x => decide (x.k = 4) := by
          have h : ∀ x ∈ xs, ((fun x : Iv => x.k == 4) ∘ gI) x = decide (x.k = 4) := by
            intro x hxm
            by_cases h4 : x.k = 4
            · have := (item_single x (hi x hxm) (hokx hok x hxm)).2.2.1 h4
              simp [this, h4]
            · have := (item_single x (hi x hxm) (hokx hok x hxm)).2.2.2 h4
              simp [this, h4]
          clear himpl hvts hflm hivs hsing
          generalize xs = ys at h
          induction ys with
          | nil => rfl
          | cons y ys ih => rw [List.find?_cons, List.find?_cons, h y (List.mem_cons_self ..), ih fun x hxm => h x (List.mem_cons_of_mem _ hxm)]
        rw [e, ← badOf_law m rows xs, hq]; rfl
      refine ⟨gI want, ?_, fun w' => ?_, fun w' b' c' hw' hz => ?_⟩
      · rw [hg]; exact (show FloatKind.f64.format.order 0 0 = some Ordering.eq by decide)
      · exact of_item want (hi want hqm) w'
      · have h := himpl w' b' c' hw' hz
        rwa [show sumRes (xs.map gI) _ = gI want by unfold sumRes; rw [hfind]] at h
    · have hx4 : ∀ x ∈ xs, x.k ≠ 4 := by
        intro x hxm h4
        rw [badOf_law] at hbn
        have := List.find?_eq_none.1 hbn x hxm
        simp [h4] at this
      have hfind : (xs.map gI).find? (fun x => x.k == 4) = none := List.find?_eq_none.2 fun y hy => by
        obtain ⟨x, hxm, rfl⟩ := List.mem_map.1 hy
        have := (item_single x (hi x hxm) (hokx hok x hxm)).2.2.2 (hx4 x hxm)
        simpa using this
      have hwk : NumK want ∧ want.t = ⟨#[]⟩ := by
        rcases hw with ⟨_, rfl⟩ | ⟨hm, _⟩
        · exact ⟨numK_zero, rfl⟩
        · exact hk hok hbn want hm
      have hT : maxT zfM zxI ((rows.map (List.map gI)).flatten) (xs.map gI) = six want := by
        rw [← List.map_flatten]
        refine max_law _ _ (fun x hxm => ⟨hfi x hxm, hu6 x (List.mem_append_left _ hxm)⟩) (fun x hxm => ⟨hi x hxm, hokx hok x hxm, hx4 x hxm⟩) want ?_
        rwa [outsOf_law] at hw
      obtain ⟨hn, ht⟩ := hwk
      have hb := hn.six_le
      refine ⟨gI want, ?_, fun w' => ?_, fun w' b' c' hw' hz => ?_⟩
      · rw [gI_num hn]; exact (tame_f16 (by omega) (by omega)).self
      · exact of_item want (Or.inr (Or.inl ⟨_, Or.inl ⟨hn, ht, rfl⟩⟩)) w'
      · have h := himpl w' b' c' hw' hz
        rw [hT] at h
        rwa [show sumRes (xs.map gI) (six want) = gI want by unfold sumRes; rw [hfind, gI_num hn]] at h

set_option maxHeartbeats 1600000 in
theorem FnMax.law_of (xs ms : List It) (a am : Option Addr) (c cm : Nat) (cols : Int) (w : World) (hx : ItAt w a xs) (hcc : xs.length ≤ c) (hcm : c ≤ maxLen) (hm : ItAt w am ms) (hmc : ms.length ≤ cm) (hmm : cm ≤ maxLen) :
    Calls Tryz.prog 3 #[.slice a xs.length c, .int .i64 cols, .slice am ms.length cm] w fun e w' => e = .returned (.bool true) ∧ Below w.heap.size w w' := by
  have HZ1 := Lib.hid (fun (w' : World) (hw : Ext w w') => zzFits1_ok xs a c w' (hx.ext hw) (by omega))
  have HZ2 := Lib.hid (fun (w' : World) (hw : Ext w w') => zzFits1_ok ms am cm w' (hm.ext hw) (by omega))
  have HW := Lib.hid (fun (w' : World) (hw : Ext w w') => with_ok xs ms a am c cm cols w' (hx.ext hw) hcc hcm (hm.ext hw) (by omega))
  have HA := Lib.hid (fun (w' : World) m rows ys b c (h1 : ArgsIn w' b 0 (lawArgs m rows ys)) h2 h3 h4 h5 => agrees_max m rows ys b c w' h1 h2 h3 h4 h5)
  clear hx hm hcc hcm hmc hmm
  go_enter Tryz.func3, Tryz.ntmps3
  go_wp2_with fail
  refine (HZ1.out _ (Ext.rf _)).mono ?_
  rintro e w1 ⟨r1, rfl, hb1⟩
  cases r1
  · go_wp2
    go_ret
    exact ⟨rfl, hb1⟩
  · go_wp2_with fail
    refine (HZ2.out _ hb1).mono ?_
    rintro e w2 ⟨r2, rfl, hb2⟩
    have hb12 : Ext w w2 := hb1.tr hb2
    cases r2
    · go_wp2
      go_ret
      exact ⟨rfl, hb12⟩
    · go_wp2_with fail
      refine (HW.out _ hb12).mono ?_
      rintro e w3 ⟨m, rows, ys, b, c', rfl, h1, h2, h3, h4, h5, hb3⟩
      have HAG := Lib.hid (HA.out w3 m rows ys b c' h1 h2 h3 h4 h5)
      clear h1 h2 h3 h4 h5
      go_wp2_with fail
      refine (HAG.out).mono ?_
      rintro e w4 ⟨rfl, hb4⟩
      have hb14 : Ext w w4 := (hb12.tr hb3).tr hb4
      go_wp2
      go_ret
      exact ⟨rfl, hb14⟩
end Go.Proofs.YtbehdafigmlnfaaGreatDoor
