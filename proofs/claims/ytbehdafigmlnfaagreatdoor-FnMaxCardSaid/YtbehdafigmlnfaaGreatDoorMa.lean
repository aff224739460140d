/-
  MAX of the package.
-/
import Derived.Test.YtbehdafigmlnfaaGreatDoorMo
import Derived.Deep.LoopGhost
namespace Go.Proofs.YtbehdafigmlnfaaGreatDoor
set_option linter.unusedSimpArgs false
set_option linter.unusedVariables false
open Go Go.RowKit
set_option maxRecDepth 100000

/-- What a single value of a range gives, in sixteenths. -/
def Mz (x : Iv) (z : Option Int) : Prop := if x.k = 1 then ∃ y : Int, x.f = f16 y ∧ -1599999999984 ≤ y ∧ y ≤ 1599999999984 ∧ z = some y else z = none

theorem Mz.bnd {x : Iv} {z : Option Int} (h : Mz x z) : bnd z := by
  unfold Mz at h
  split at h
  · obtain ⟨y, _, h1, h2, rfl⟩ := h
    intro q hq
    have := Option.some.inj hq
    omega
  · subst h; intro q hq; cases hq

def CmSt (zf : Iv → Option Int) (xs : List Iv) (m : Option Int) (w wr : World) (v i : Value) : Prop :=
  ∃ k : Nat, k ≤ xs.length ∧ i = .int .i64 k ∧ v = .float .f64 (mw (maxI zf (xs.take k) m)) ∧ Ext w wr

set_option maxHeartbeats 3200000 in
theorem calcMax_ok (zf : Iv → Option Int) (rows : List (List Iv)) (m : Option Int) (L H b c p1 p2 : Nat) (w : World) (hm : bnd m) (hne : rows ≠ []) (hfl : rows.flatten.length ≤ 1000) (hml : MLie innerL 10 L H w b 0 rows)
    (hz : ∀ x ∈ rows.flatten, IvOk x ∧ Mz x (zf x)) :
    Calls Tryz.prog 118 #[.bool false, .float .f64 (mw m), .agg (matC b rows.length c p1 p2)] w (Gives w (.float .f64 (mw (maxI zf rows.flatten m)))) := by
  have HT := Lib.hid (fun (w' : World) (hw : Ext w w') => toList_mat rows L H b c p1 p2 w' hne hfl (hml.ext hw))
  have HZ := Lib.hid hz
  have HB := Lib.hid hm
  have hfne : rows.flatten ≠ [] := by
    intro h0
    have h3 := rows_le_flatten (rows := rows) (fun row hr => by
      obtain ⟨i, hi⟩ := List.getElem?_of_mem hr
      exact (hml i row hi).1)
    rw [h0] at h3
    exact hne (List.eq_nil_of_length_eq_zero (by simpa using h3))
  clear hz hm hml
  generalize rows.flatten = xs at hfl HT HZ hfne ⊢
  go_enter Tryz.func118, Tryz.ntmps118
  go_wp2_with fail
  refine (HT.out _ ((Ext.rf w).al _)).mono ?_
  rintro e w1 ⟨v, rfl, hown, hb1⟩
  obtain ⟨g, cap, hv, hg, hgl⟩ := GOwns.lie innerL_len hown hfne
  subst hv
  have HG := Lib.hid hgl
  clear hown hgl
  go_wp2
  go_loopw [1, 12] (fun v i wr => CmSt zf xs m w1 wr v i) (fun _ i _ => xs.length - (intOf i).toNat)
  case atStart => exact ⟨0, Nat.zero_le _, rfl, rfl, Ext.rf _⟩
  case round =>
    obtain ⟨k, hk, rfl, rfl, hb⟩ := hrel
    by_cases hlt : k < xs.length
    · obtain ⟨x, Hx⟩ := elem_at hlt
      have hgr := HG.out.ext hb
      have hst := maxI_take zf m Hx
      obtain ⟨hxo, hxz⟩ := HZ.out x (mem_at Hx)
      have hbd : bnd (maxI zf (xs.take k) m) := maxI_bnd zf _ m HB.out (fun y hy => (HZ.out y (List.mem_of_mem_take hy)).2.bnd)
      have HST := Lib.hid hst
      generalize maxI zf (xs.take k) m = M at hbd HST ⊢
      have HBD := Lib.hid hbd
      clear hst hbd
      rcases hxo with rfl | ⟨f', rfl, hf⟩ | ⟨t, rfl⟩ | rfl | rfl | ⟨t, rfl⟩
      · have hzn : zf ⟨0, 0, ⟨#[]⟩⟩ = none := hxz
        rw [hzn] at HST
        obtain ⟨c0, c1, c2, c3, c4, c5, c6, c7, c8, c9⟩ := fa_cells hgr Hx.out (by rfl)
        clear hgr hxz hzn
        go_wp2
        exact ⟨⟨k + 1, by omega, by go_num, by rw [HST.out]; rfl, (by repeat (first | with_reducible exact Below.refl _ _ | with_reducible assumption | ((with_reducible refine Below.setCell ?_ ?_ _); rotate_left; (simp; try omega)) | (with_reducible refine Ext.tr ?_ (by with_reducible assumption)) | (with_reducible refine Ext.al ?_ _) | (with_reducible refine below_drewN ?_ _) | (with_reducible refine Below.drew ?_)))⟩, by simp [intOf]; omega⟩
      · obtain ⟨z, hfz, z1, z2, hzn⟩ : ∃ y : Int, f' = f16 y ∧ -1599999999984 ≤ y ∧ y ≤ 1599999999984 ∧ zf ⟨1, f', ⟨#[]⟩⟩ = some y := hxz
        rw [hzn] at HST
        subst hfz
        obtain ⟨c0, c1, c2, c3, c4, c5, c6, c7, c8, c9⟩ := fa_cells hgr Hx.out (by rfl)
        have hgt := order_mw HBD.out z1 z2
        clear hgr hzn hf
        cases hu : ups M z
        · rw [hu] at hgt
          rw [mw_stay hu] at HST
          clear hu
          go_wp2
          exact ⟨⟨k + 1, by omega, by go_num, by rw [HST.out], (by repeat (first | with_reducible exact Below.refl _ _ | with_reducible assumption | ((with_reducible refine Below.setCell ?_ ?_ _); rotate_left; (simp; try omega)) | (with_reducible refine Ext.tr ?_ (by with_reducible assumption)) | (with_reducible refine Ext.al ?_ _) | (with_reducible refine below_drewN ?_ _) | (with_reducible refine Below.drew ?_)))⟩, by simp [intOf]; omega⟩
        · rw [hu] at hgt
          rw [mw_up hu] at HST
          clear hu
          go_wp2
          exact ⟨⟨k + 1, by omega, by go_num, by rw [HST.out]; rfl, (by repeat (first | with_reducible exact Below.refl _ _ | with_reducible assumption | ((with_reducible refine Below.setCell ?_ ?_ _); rotate_left; (simp; try omega)) | (with_reducible refine Ext.tr ?_ (by with_reducible assumption)) | (with_reducible refine Ext.al ?_ _) | (with_reducible refine below_drewN ?_ _) | (with_reducible refine Below.drew ?_)))⟩, by simp [intOf]; omega⟩
      · have hzn : zf ⟨2, 0, t⟩ = none := hxz
        rw [hzn] at HST
        obtain ⟨c0, c1, c2, c3, c4, c5, c6, c7, c8, c9⟩ := fa_cells hgr Hx.out (by rfl)
        clear hgr hxz hzn
        go_wp2
        exact ⟨⟨k + 1, by omega, by go_num, by rw [HST.out]; rfl, (by repeat (first | with_reducible exact Below.refl _ _ | with_reducible assumption | ((with_reducible refine Below.setCell ?_ ?_ _); rotate_left; (simp; try omega)) | (with_reducible refine Ext.tr ?_ (by with_reducible assumption)) | (with_reducible refine Ext.al ?_ _) | (with_reducible refine below_drewN ?_ _) | (with_reducible refine Below.drew ?_)))⟩, by simp [intOf]; omega⟩
      · have hzn : zf ⟨3, 0, ⟨#[]⟩⟩ = none := hxz
        rw [hzn] at HST
        obtain ⟨c0, c1, c2, c3, c4, c5, c6, c7, c8, c9⟩ := fa_cells hgr Hx.out (by rfl)
        clear hgr hxz hzn
        cases hgt : (FloatKind.f64.format.order 0 (mw M) == some Ordering.gt)
        all_goals
          go_wp2
          exact ⟨⟨k + 1, by omega, by go_num, by rw [HST.out]; rfl, (by repeat (first | with_reducible exact Below.refl _ _ | with_reducible assumption | ((with_reducible refine Below.setCell ?_ ?_ _); rotate_left; (simp; try omega)) | (with_reducible refine Ext.tr ?_ (by with_reducible assumption)) | (with_reducible refine Ext.al ?_ _) | (with_reducible refine below_drewN ?_ _) | (with_reducible refine Below.drew ?_)))⟩, by simp [intOf]; omega⟩
      · have hzn : zf ⟨3, 4607182418800017408, ⟨#[]⟩⟩ = none := hxz
        rw [hzn] at HST
        obtain ⟨c0, c1, c2, c3, c4, c5, c6, c7, c8, c9⟩ := fa_cells hgr Hx.out (by rfl)
        clear hgr hxz hzn
        cases hgt : (FloatKind.f64.format.order 4607182418800017408 (mw M) == some Ordering.gt)
        all_goals
          go_wp2
          exact ⟨⟨k + 1, by omega, by go_num, by rw [HST.out]; rfl, (by repeat (first | with_reducible exact Below.refl _ _ | with_reducible assumption | ((with_reducible refine Below.setCell ?_ ?_ _); rotate_left; (simp; try omega)) | (with_reducible refine Ext.tr ?_ (by with_reducible assumption)) | (with_reducible refine Ext.al ?_ _) | (with_reducible refine below_drewN ?_ _) | (with_reducible refine Below.drew ?_)))⟩, by simp [intOf]; omega⟩
      · have hzn : zf ⟨4, 0, t⟩ = none := hxz
        rw [hzn] at HST
        obtain ⟨c0, c1, c2, c3, c4, c5, c6, c7, c8, c9⟩ := fa_cells hgr Hx.out (by rfl)
        clear hgr hxz hzn
        go_wp2
        exact ⟨⟨k + 1, by omega, by go_num, by rw [HST.out]; rfl, (by repeat (first | with_reducible exact Below.refl _ _ | with_reducible assumption | ((with_reducible refine Below.setCell ?_ ?_ _); rotate_left; (simp; try omega)) | (with_reducible refine Ext.tr ?_ (by with_reducible assumption)) | (with_reducible refine Ext.al ?_ _) | (with_reducible refine below_drewN ?_ _) | (with_reducible refine Below.drew ?_)))⟩, by simp [intOf]; omega⟩
    · have hfull : xs.take k = xs := List.take_of_length_le (by omega)
      have hbw : Ext w w1 := ((Ext.rf w).al _).tr hb1
      rw [hfull]
      go_wp2
      go_ret
      exact ⟨rfl, (by repeat (first | with_reducible exact Below.refl _ _ | with_reducible assumption | ((with_reducible refine Below.setCell ?_ ?_ _); rotate_left; (simp; try omega)) | (with_reducible refine Ext.tr ?_ (by with_reducible assumption)) | (with_reducible refine Ext.al ?_ _) | (with_reducible refine below_drewN ?_ _) | (with_reducible refine Below.drew ?_)))⟩
end Go.Proofs.YtbehdafigmlnfaaGreatDoor
