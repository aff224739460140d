/-
  FnLarge: what the call comes to.
-/
import Derived.Test.YtpcfmkongpmmmaaGreatDoorKp
import Derived.Test.YtpcfmkongpmmmaaGreatDoorKr
import Derived.Test.YtpcfmkongpmmmaaGreatDoorWi
import Derived.Test.YtpcfmkongpmmmaaGreatDoorAl2
namespace Go.Proofs.YtpcfmkongpmmmaaGreatDoor
set_option linter.unusedSimpArgs false
set_option linter.unusedVariables false
open Go Go.RowKit
set_option maxRecDepth 100000

noncomputable def zfK (y : Iv) : Option Int := if y.k = 1 then some (zdec y.f) else none

theorem cellK_item {x : Sc} (h : ItemSc x) (hk : ([(1 : Int), 2, 0].any fun n => x.k == n) = true) : CellK zfK (gI x) ∧ zfK (gI x) = (if x.k = 1 then some (six x) else none) ∧ IvOk (gI x) := by
  rcases h with rfl | ⟨Z, ⟨h, ht, hZ⟩ | rfl⟩ | ⟨t, rfl⟩ | rfl | rfl | ⟨t, rfl⟩
  · exact ⟨Or.inl ⟨rfl, rfl⟩, rfl, Or.inl rfl⟩
  · have hb := h.six_le
    have hd := zdec_f16 hb.1 hb.2
    rw [gI_num h, if_pos h.k]
    have e : zfK ⟨1, f16 (six x), ⟨#[]⟩⟩ = some (six x) := by unfold zfK; rw [if_pos rfl]; exact congrArg some hd
    exact ⟨Or.inr (Or.inl ⟨six x, rfl, hb.1, hb.2, e⟩), e, Or.inr (Or.inl ⟨_, rfl, tame_f16 (by omega) (by omega)⟩)⟩
  · exact absurd hk (by simp)
  · exact ⟨Or.inr (Or.inr ⟨t, rfl, rfl⟩), rfl, Or.inr (Or.inr (Or.inl ⟨t, rfl⟩))⟩
  all_goals exact absurd hk (by simp)

theorem nums_fm : ∀ (l : List Sc), (∀ x ∈ l, zfK (gI x) = (if x.k = 1 then some (six x) else none)) → (l.map gI).filterMap zfK = (l.filter fun x => x.k == 1).map six
  | [], _ => rfl
  | x :: l, h => by
    have h1 := h x (List.mem_cons_self ..)
    have ih := nums_fm l fun y hy => h y (List.mem_cons_of_mem _ hy)
    rw [List.map_cons, List.filterMap_cons, h1]
    by_cases hk : x.k = 1
    · rw [if_pos hk, List.filter_cons_of_pos (by simp [hk]), List.map_cons, ih]
    · rw [if_neg hk, List.filter_cons_of_neg (by simp [hk]), ih]

/-- What is sure of the place. -/
def PlaceOk (x : Sc) : Prop := x = ⟨6, 0, 0, ⟨#[]⟩⟩ ∨ ∃ k : Int, x = ⟨1, k, 1, ⟨#[]⟩⟩ ∧ -99999999999 ≤ k ∧ k ≤ 99999999999

theorem PlaceOk.item {x : Sc} (h : PlaceOk x) : ItemSc x := by
  rcases h with rfl | ⟨k, rfl, h1, h2⟩
  · exact Or.inr (Or.inl ⟨0, Or.inr rfl⟩)
  · exact Or.inr (Or.inl ⟨_, Or.inl ⟨⟨rfl, Or.inl rfl, h1, h2⟩, rfl, rfl⟩⟩)

theorem int_sc (k : Int) (w : World) : Calls Tryz.prog 8 #[.int .i64 k] w fun e w' => ∃ x : Sc, e = .returned x.val ∧ PlaceOk x ∧ Ext w w' := by
  by_cases h : k ≤ 99999999999 ∧ -99999999999 ≤ k
  · refine (int_ok k w h.1 h.2).mono ?_
    rintro e w' ⟨rfl, hb⟩
    exact ⟨⟨1, k, 1, ⟨#[]⟩⟩, rfl, Or.inr ⟨k, rfl, h.2, h.1⟩, hb⟩
  · refine (int_big k w (by omega)).mono ?_
    rintro e w' ⟨rfl, hb⟩
    exact ⟨⟨6, 0, 0, ⟨#[]⟩⟩, rfl, Or.inl rfl, hb⟩

theorem agrees_large (m : Mc) (rows : List (List Sc)) (x : Sc) (b c : Nat) (w : World) (hx : ArgsIn w b 0 (lawArgs m rows [x])) (hc : 2 ≤ c) (htab : TabOk rows) (hp : PlaceOk x) :
    Calls Tryz.prog 5 #[.func (.func 6) #[] #[], .string ⟨#[76, 65, 82, 71, 69]⟩, .slice (some ⟨b, 0, none⟩) 2 c] w (Gives w (.bool true)) := by
  obtain ⟨hfne, hfl, hfi⟩ := htab.flat
  have hmat : ∃ bm cm L H C, m = ⟨5, 0, 0, ⟨#[]⟩, some ⟨bm, 0, none⟩, rows.length, cm⟩ ∧ MatK w b bm cm L H rows C x := by
    obtain ⟨L, H, hH, hv⟩ := hx.2 0 _ rfl
    obtain ⟨C, h1, h2, h3, h4, hcol, _⟩ := htab
    obtain ⟨_, _, _, bm, cm, e, _, _, hml⟩ := hv
    have e : m = ⟨5, 0, 0, ⟨#[]⟩, some ⟨bm, 0, none⟩, rows.length, cm⟩ := e
    subst e
    exact ⟨bm, cm, L, H, C, rfl, ⟨hx, hml, h3, h4, hcol, h2, hfi, hfne, hfl⟩⟩
  obtain ⟨bm, cm, L, H, C, hm, hM⟩ := hmat
  subst hm
  refine agrees_vt 6 (fun args w => Tryz.call6 args w) (KthP rows x)
    (fun w b => ∃ zs, zs.length = 2 ∧ ArgsIv w b 0 zs ∧ vts zs = [.mat (rows.map (List.map gI)), .sc (gI x)]) ⟨#[76, 65, 82, 71, 69]⟩ (lawArgs _ rows [x]) 2 rfl b c w hx ?_ (by simp [lawArgs]) ?_ ?_ ?_ ?_ ?_
  · rw [flatOf_law]; intro h0
    exact hfne (List.append_eq_nil_iff.1 h0).1
  · rw [flatOf_law, List.length_append, show [x].length = 1 from rfl]; omega
  · intro w' hw'
    refine call_stat ⟨#[76, 65, 82, 71, 69]⟩ _ _ _ _ w' (fun w2 hw2 => ?_) (fun w2 hw2 => ?_)
    · refine fits_of_others _ _ _ _ w2 (fun w3 hw3 => ?_) (fun w3 => fitsTexts_LARGE _ _ _ w3) (fun w3 => fitsChoices_LARGE _ _ _ w3) (fun w3 => others_LARGE w3)
      have h5 := (hx.ext ((hw'.tr hw2).tr hw3)).at5 (i := 0) rfl
      exact fitsNumbers_LARGE _ _ _ _ _ _ b 0 _ c w3 (by omega) h5
    · exact stat_large rows x b bm c cm L H C w2 (hM.ext (hw'.tr hw2)) hc hp
  · rintro want (rfl | ⟨_, k, _, ⟨_, rfl⟩ | ⟨_, _, zs, hp, _, hw⟩⟩)
    · decide
    · decide
    · have hmem := hp.mem_iff.1 (List.mem_of_getElem? hw)
      have := (List.mem_filter.1 hmem).2
      intro h5
      rw [h5] at this
      cases this
  · intro w' hw'
    have h := all_vt gI (lawArgs _ rows [x]) b c w' (by simp [lawArgs]) (hx.ext hw') (by simp [lawArgs]) (fun y hy => by
      rcases List.mem_cons.1 hy with rfl | hy
      · intro row hr z hzr w2
        exact of_item z (hfi z (List.mem_flatten.2 ⟨row, hr, hzr⟩)) w2
      · obtain ⟨z, hz, rfl⟩ := List.mem_map.1 hy
        obtain rfl : z = x := by simpa using hz
        intro w2
        exact of_item z hp.item w2)
    refine h.mono ?_
    rintro e w2 ⟨b', c', zs, rfl, h1, h2, h3⟩
    refine ⟨b', c', rfl, ⟨zs, ?_, h1, h2⟩, h3⟩
    have := congrArg List.length h2
    simpa [vts, lawArgs] using this
  · intro hu want hw h6
    rcases hw with rfl | ⟨hkk, k, rfl, hw⟩
    · exact absurd rfl h6
    obtain ⟨hk1, hk2⟩ : -99999999999 ≤ k ∧ k ≤ 99999999999 := by
      rcases hp with hp | ⟨k', hp, h1, h2⟩
      · cases hp
      · injection hp with _ e _ _
        rw [e]; exact ⟨h1, h2⟩
    have hcell : ∀ z ∈ rows.flatten, CellK zfK (gI z) ∧ zfK (gI z) = (if z.k = 1 then some (six z) else none) ∧ IvOk (gI z) := fun z hz => cellK_item (hfi z hz) (List.all_eq_true.1 hkk z hz)
    have hflat : (rows.map (List.map gI)).flatten = rows.flatten.map gI := List.map_flatten.symm
    have hck : ∀ y ∈ (rows.map (List.map gI)).flatten, CellK zfK y ∧ IvOk y := by
      intro y hy
      rw [hflat] at hy
      obtain ⟨z, hz, rfl⟩ := List.mem_map.1 hy
      exact ⟨(hcell z hz).1, (hcell z hz).2.2⟩
    have hfm : (rows.map (List.map gI)).flatten.filterMap zfK = (numsOf rows).map six := by
      rw [hflat]; exact nums_fm _ fun z hz => (hcell z hz).2.1
    have hlen : ((numsOf rows).map six).length = (numsOf rows).length := List.length_map ..
    have hgx : gI ⟨1, k, 1, ⟨#[]⟩⟩ = ⟨1, f16 (16 * k), ⟨#[]⟩⟩ := by
      rw [gI_num ⟨rfl, Or.inl rfl, hk1, hk2⟩]
      have : six ⟨1, k, 1, ⟨#[]⟩⟩ = 16 * k := by unfold six; simp; omega
      rw [this]
    have himpl : ∀ w' b' c' r, KRes ((numsOf rows).map six) k r → (∃ zs, zs.length = 2 ∧ ArgsIv w' b' 0 zs ∧ vts zs = [.mat (rows.map (List.map gI)), .sc (gI ⟨1, k, 1, ⟨#[]⟩⟩)]) →
        Calls Tryz.prog 6 #[.slice (some ⟨b', 0, none⟩) 2 c'] w' (Gives w' r.val) := by
      rintro w' b' c' r hr ⟨zs, hzl, hza, hzv⟩
      rw [hgx] at hzv
      exact impl_large zs 2 hzl.symm _ k zfK r b' c' w' (by omega) hza hzv hk1 hk2 hck (by rw [hflat, List.length_map]; omega) (by rw [hfm]; exact hr)
    rcases hw with ⟨hbad, rfl⟩ | ⟨h1, h2, zs, hperm, hord, hat⟩
    · refine ⟨⟨4, 0, ⟨#[35, 78, 85, 77, 33]⟩⟩, (show FloatKind.f64.format.order 0 0 = some Ordering.eq by decide), fun w' => of_err _ w', fun w' b' c' _ hz => ?_⟩
      exact himpl w' b' c' _ (Or.inl ⟨by rw [hlen]; exact hbad, rfl⟩) hz
    · have hnum : ∀ y ∈ numsOf rows, NumK y ∧ y.t = ⟨#[]⟩ := fun y hy => by
        obtain ⟨q1, q2⟩ := List.mem_filter.1 hy
        exact (hfi y q1).num (by simpa using q2)
      have hwm : want ∈ numsOf rows := hperm.mem_iff.1 (List.mem_of_getElem? hat)
      obtain ⟨hn, ht⟩ := hnum want hwm
      have hb := hn.six_le
      have hla := large_at (numsOf rows) zs hperm hord (fun y hy => (hnum y hy).1) _ want hat
      refine ⟨gI want, ?_, fun w' => of_item want (Or.inr (Or.inl ⟨_, Or.inl ⟨hn, ht, rfl⟩⟩)) w', fun w' b' c' _ hz => ?_⟩
      · rw [gI_num hn]; exact (tame_f16 (by omega) (by omega)).self
      · refine himpl w' b' c' _ (Or.inr ⟨h1, by rw [hlen]; exact h2, ?_⟩) hz
        rw [hlen, hla.1, hla.2, gI_num hn]

theorem two_newK (w : World) (m1 m2 : Mc) (y1 y2 : Vt Sc) (t : TypeId) :
    GLie vtCells 5 (w.alloc (.cells #[.int .i64 m1.k, .int .i64 m1.n, .int .i64 m1.d, .string m1.t, .slice m1.ra m1.rl m1.rc, .int .i64 m2.k, .int .i64 m2.n, .int .i64 m2.d, .string m2.t, .slice m2.ra m2.rl m2.rc] t)) w.heap.size 0 [(m1, y1), (m2, y2)] := by
  intro i x hx j u hu
  have hj : j < 5 := by
    apply Classical.byContradiction
    intro hn
    rw [List.getElem?_eq_none (by rw [vtCells_len]; omega)] at hu
    cases hu
  match i, hx with
  | 0, hx =>
    have e : (m1, y1) = x := by simpa using hx
    subst e
    rcases (show j = 0 ∨ j = 1 ∨ j = 2 ∨ j = 3 ∨ j = 4 by omega) with rfl | rfl | rfl | rfl | rfl <;> (simp [vtCells, Mc.cells] at hu; subst hu; simp [go_sem])
  | 1, hx =>
    have e : (m2, y2) = x := by simpa using hx
    subst e
    rcases (show j = 0 ∨ j = 1 ∨ j = 2 ∨ j = 3 ∨ j = 4 by omega) with rfl | rfl | rfl | rfl | rfl <;> (simp [vtCells, Mc.cells] at hu; subst hu; simp [go_sem])

set_option maxHeartbeats 1600000 in
theorem FnLarge.law_of (xs : List It) (a : Option Addr) (c : Nat) (cols k : Int) (w : World) (hx : ItAt w a xs) (hcc : xs.length ≤ c) (hcm : c ≤ maxLen) :
    Calls Tryz.prog 3 #[.slice a xs.length c, .int .i64 cols, .int .i64 k] w fun e w' => e = .returned (.bool true) ∧ Below w.heap.size w w' := by
  have HZ1 := Lib.hid (fun (w' : World) (hw : Ext w w') => zzFits1_ok xs a c w' (hx.ext hw) (by omega))
  have HT1 := Lib.hid (fun (w' : World) (hw : Ext w w') => table_any' xs a c cols w' (hx.ext hw) hcc hcm)
  have HA := Lib.hid (fun (w' : World) m1 r1 x b (h1 : ArgsIn w' b 0 (lawArgs m1 r1 [x])) h3 h4 => agrees_large m1 r1 x b 2 w' h1 (by omega) h3 h4)
  clear hx hcc hcm
  go_enter Tryz.func3, Tryz.ntmps3
  go_wp2_with fail
  refine (HZ1.out _ (Ext.rf _)).mono ?_
  rintro e w1 ⟨r1, rfl, hb1⟩
  cases r1
  · go_wp2
    go_ret
    exact ⟨rfl, hb1⟩
  · go_wp2_with fail
    refine (HT1.out _ hb1).mono ?_
    rintro e w3 ⟨m1, rows1, rfl, hv1, ht1, hb3⟩
    have hb13 : Ext w w3 := hb1.tr hb3
    have HV1 := Lib.hid hv1; have HK1 := Lib.hid ht1
    clear hv1 ht1
    go_wp2_with fail
    refine (int_sc k _).mono ?_
    rintro e w4 ⟨x, rfl, hpl, hb4⟩
    have hb14 : Ext w w4 := hb13.tr hb4
    have HPL := Lib.hid hpl
    clear hpl
    have hargs : ArgsIn (w4.alloc (.cells #[.int .i64 m1.k, .int .i64 m1.n, .int .i64 m1.d, .string m1.t, .slice m1.ra m1.rl m1.rc, .int .i64 x.k, .int .i64 x.n, .int .i64 x.d, .string x.t, .slice none 0 0] 28)) w4.heap.size 0 (lawArgs m1 rows1 [x]) := by
      refine ⟨two_newK w4 m1 x.mc _ _ _, fun i y hi => ?_⟩
      match i, hi with
      | 0, hi =>
        have e : (m1, Vt.mat rows1) = y := by simpa [lawArgs] using hi
        subst e
        exact ⟨w1.heap.size + 1, w3.heap.size, by have := hb4.size; simp; omega, vtR_hangs _ _ w3 _ _ HV1.out (fun k h1 h2 => (Ext.al hb4 _).block k h2)⟩
      | 1, hi =>
        have e : (x.mc, Vt.sc x) = y := by simpa [lawArgs] using hi
        subst e
        exact ⟨0, 0, Nat.zero_le _, rfl, HPL.out.item.k5⟩
    have HAG := Lib.hid (HA.out _ m1 rows1 x _ hargs HK1.out HPL.out)
    clear hargs
    obtain ⟨k1, n1, d1, t1, ra1, rl1, rc1⟩ := m1
    obtain ⟨xk, xn, xd, xt⟩ := x
    go_wp2_with fail
    refine (HAG.out).mono ?_
    rintro e w5 ⟨rfl, hb5⟩
    have hb15 : Ext w w5 := (Ext.al hb14 _).tr hb5
    go_wp2
    go_ret
    exact ⟨rfl, hb15⟩
end Go.Proofs.YtpcfmkongpmmmaaGreatDoor
