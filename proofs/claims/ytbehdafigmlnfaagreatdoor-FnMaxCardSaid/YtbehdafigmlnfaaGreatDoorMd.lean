/-
  MAX through its doors.
-/
import Derived.Test.YtbehdafigmlnfaaGreatDoorMv
namespace Go.Proofs.YtbehdafigmlnfaaGreatDoor
set_option linter.unusedSimpArgs false
set_option linter.unusedVariables false
open Go Go.RowKit
set_option maxRecDepth 100000

set_option maxHeartbeats 1600000 in
theorem door_max (us : List (Im × Vt Iv)) (n : Nat) (hn : n = us.length) (rows : List (List Iv)) (xs : List Iv) (zf : Iv → Option Int) (zx : Iv → Int) (b c : Nat) (w : World) (hl : us.length ≤ 1000000) (hx : ArgsIv w b 0 us) (hv : vts us = .mat rows :: xs.map .sc) (hxl : xs.length ≤ 100)
    (hok : ∀ u ∈ us, u.2.all IvOk) (hz : ∀ x ∈ rows.flatten, IvOk x ∧ Mz x (zf x)) (hs : ∀ x ∈ xs, SingOk x (zx x)) (hfl : rows.flatten.length ≤ 1000) :
    Calls Tryz.prog 15 #[.slice (some ⟨b, 0, none⟩) n c] w (Gives w (sumRes xs (maxT zf zx rows.flatten xs)).val) := by
  subst hn
  have HI := Lib.hid (fun (w' : World) (hw : Ext w w') => innerList_vi us b c w' hl (hx.ext hw) hok)
  have HF := Lib.hid (fun (w' : World) (fb p B : Nat) es ps (h : FArgs w' p B es ps) (h2 : vts ps = .mat rows :: xs.map .sc) => fn_max fb p B es ps rows xs zf zx w' h h2 hxl hz hs hfl)
  have HO := Lib.hid (fun w' => door_res xs zx (maxT zf zx rows.flatten xs) hs w')
  have HV := Lib.hid hv
  clear hx hok hz hs hv
  generalize sumRes xs (maxT zf zx rows.flatten xs) = res at HF HO ⊢
  go_enter Tryz.func15, Tryz.ntmps15
  (go_wp2_with fail; refine (doorFuncs_any _).mono ?_; rintro e w1 ⟨⟨fb, rfl⟩, hb1⟩; obtain ⟨hc1, hf1, hz1⟩ := ext_facts hb1; (try simp at hz1); (have hq1_0 : w.heap.size < w1.heap.size := by omega); (have hl1_0 : w.heap.size ≤ w1.heap.size := by omega); (have hr1_0 := fun o => hc1 (w.heap.size) o (by first | omega | (simp; done) | (simp; omega))); (have hs1_0 := fun o => hf1 (w.heap.size) o (by first | omega | (simp; done) | (simp; omega))); (try simp (disch := first | omega | (simp; omega)) only [World.cell?_alloc_past, World.cell?_drew] at hr1_0); (try simp (disch := first | omega | (simp; omega)) only [World.frozen?_alloc_past, World.frozen?_drew] at hs1_0); clear hc1 hf1)
  go_wp2_with fail
  refine (HI.out _ (by repeat (first | with_reducible exact Below.refl _ _ | with_reducible assumption | ((with_reducible refine Below.setCell ?_ ?_ _); rotate_left; (simp; try omega)) | (with_reducible refine Ext.tr ?_ (by with_reducible assumption)) | (with_reducible refine Ext.al ?_ _) | (with_reducible refine below_drewN ?_ _) | (with_reducible refine Below.drew ?_)))).mono ?_
  rintro e w2 ⟨p, es, ps, rfl, hargs, hps, hb2⟩
  have HA := Lib.hid hargs; have HPS := Lib.hid hps
  clear hargs hps
  (obtain ⟨hc2, hf2, hz2⟩ := ext_facts hb2; (try simp at hz2); (have hq2_0 : w.heap.size < w2.heap.size := by omega); (have hl2_0 : w.heap.size ≤ w2.heap.size := by omega); (have hr2_0 := fun o => hc2 (w.heap.size) o (by first | omega | (simp; done) | (simp; omega))); (have hs2_0 := fun o => hf2 (w.heap.size) o (by first | omega | (simp; done) | (simp; omega))); (try simp (disch := first | omega | (simp; omega)) only [World.cell?_alloc_past, World.cell?_drew] at hr2_0); (try simp (disch := first | omega | (simp; omega)) only [World.frozen?_alloc_past, World.frozen?_drew] at hs2_0); clear hc2 hf2)
  (go_wp2_with fail; refine (HF.out w2 fb p _ es ps HA.out (by rw [HPS.out, HV.out])).mono ?_; rintro e w3 ⟨rfl, hb3⟩; obtain ⟨hc3, hf3, hz3⟩ := ext_facts hb3; (try simp at hz3); (have hq3_0 : w.heap.size < w3.heap.size := by omega); (have hl3_0 : w.heap.size ≤ w3.heap.size := by omega); (have hr3_0 := fun o => hc3 (w.heap.size) o (by first | omega | (simp; done) | (simp; omega))); (have hs3_0 := fun o => hf3 (w.heap.size) o (by first | omega | (simp; done) | (simp; omega))); (try simp (disch := first | omega | (simp; omega)) only [World.cell?_alloc_past, World.cell?_drew] at hr3_0); (try simp (disch := first | omega | (simp; omega)) only [World.frozen?_alloc_past, World.frozen?_drew] at hs3_0); clear hc3 hf3)
  (go_wp2_with fail; refine (HO.out _).mono ?_; rintro e w4 ⟨rfl, hb4⟩; obtain ⟨hc4, hf4, hz4⟩ := ext_facts hb4; (try simp at hz4); (have hq4_0 : w.heap.size < w4.heap.size := by omega); (have hl4_0 : w.heap.size ≤ w4.heap.size := by omega); (have hr4_0 := fun o => hc4 (w.heap.size) o (by first | omega | (simp; done) | (simp; omega))); (have hs4_0 := fun o => hf4 (w.heap.size) o (by first | omega | (simp; done) | (simp; omega))); (try simp (disch := first | omega | (simp; omega)) only [World.cell?_alloc_past, World.cell?_drew] at hr4_0); (try simp (disch := first | omega | (simp; omega)) only [World.frozen?_alloc_past, World.frozen?_drew] at hs4_0); clear hc4 hf4)
  go_wp2
  exact bodyPost_ret (v := Iv.val res) (by simp [results, Tryz.results15, go_sem, *]) rfl ⟨rfl, (by repeat (first | with_reducible exact Below.refl _ _ | with_reducible assumption | ((with_reducible refine Below.setCell ?_ ?_ _); rotate_left; (simp; try omega)) | (with_reducible refine Ext.tr ?_ (by with_reducible assumption)) | (with_reducible refine Ext.al ?_ _) | (with_reducible refine below_drewN ?_ _) | (with_reducible refine Below.drew ?_)))⟩

set_option maxHeartbeats 1600000 in
theorem impl_max (zs : List (Im × Vt Iv)) (n : Nat) (hn : n = zs.length) (rows : List (List Iv)) (xs : List Iv) (zf : Iv → Option Int) (zx : Iv → Int) (b c : Nat) (w : World) (hl : zs.length ≤ 1000000) (hx : ArgsIv w b 0 zs) (hv : vts zs = .mat rows :: xs.map .sc) (hxl : xs.length ≤ 100)
    (hok : ∀ x ∈ xs, IvOk x) (hz : ∀ x ∈ rows.flatten, IvOk x ∧ Mz x (zf x)) (hs : ∀ x ∈ xs, SingOk x (zx x)) (hfl : rows.flatten.length ≤ 1000) :
    Calls Tryz.prog 6 #[.slice (some ⟨b, 0, none⟩) n c] w (Gives w (sumRes xs (maxT zf zx rows.flatten xs)).val) := by
  subst hn
  have hne : zs ≠ [] := by intro h0; rw [h0] at hv; simp [vts] at hv
  have hzl : ∀ us : List (Im × Vt Iv), vts us = vts zs → us.length = zs.length := fun us h => by
    have := congrArg List.length h
    simpa [vts] using this
  have hoku : ∀ us : List (Im × Vt Iv), vts us = vts zs → ∀ u ∈ us, u.2.all IvOk := fun us h u hu => by
    have hm : u.2 ∈ vts us := List.mem_map.2 ⟨u, hu, rfl⟩
    rw [h, hv] at hm
    rcases List.mem_cons.1 hm with e | hm
    · rw [e]
      intro row hr x hxr
      exact (hz x (List.mem_flatten.2 ⟨row, hr, hxr⟩)).1
    · obtain ⟨x, hxm, e⟩ := List.mem_map.1 hm
      rw [← e]; exact hok x hxm
  have HI := Lib.hid (fun (w' : World) (hw : Ext w w') => in_vi zs b c w' hl (hx.ext hw) hne)
  have HD := Lib.hid (fun (w' : World) (us : List (Im × Vt Iv)) (b' c' : Nat) (h : ArgsIv w' b' 0 us) (h2 : vts us = vts zs) => door_max us zs.length (hzl us h2).symm rows xs zf zx b' c' w' (by rw [hzl us h2]; exact hl) h (h2.trans hv) hxl (hoku us h2) hz hs hfl)
  clear hx hok hz hs hv hzl hoku
  generalize sumRes xs (maxT zf zx rows.flatten xs) = res at HD ⊢
  go_enter Tryz.func6, Tryz.ntmps6
  go_wp2_with fail
  refine (HI.out _ (by repeat (first | with_reducible exact Below.refl _ _ | with_reducible assumption | ((with_reducible refine Below.setCell ?_ ?_ _); rotate_left; (simp; try omega)) | (with_reducible refine Ext.tr ?_ (by with_reducible assumption)) | (with_reducible refine Ext.al ?_ _) | (with_reducible refine below_drewN ?_ _) | (with_reducible refine Below.drew ?_)))).mono ?_
  rintro e w1 ⟨b', c', us, rfl, hargs, hus, hb1⟩
  have HA := Lib.hid hargs; have HU := Lib.hid hus
  clear hargs hus
  (obtain ⟨hc1, hf1, hz1⟩ := ext_facts hb1; (try simp at hz1); (have hq1_0 : w.heap.size < w1.heap.size := by omega); (have hl1_0 : w.heap.size ≤ w1.heap.size := by omega); (have hr1_0 := fun o => hc1 (w.heap.size) o (by first | omega | (simp; done) | (simp; omega))); (have hs1_0 := fun o => hf1 (w.heap.size) o (by first | omega | (simp; done) | (simp; omega))); (try simp (disch := first | omega | (simp; omega)) only [World.cell?_alloc_past, World.cell?_drew] at hr1_0); (try simp (disch := first | omega | (simp; omega)) only [World.frozen?_alloc_past, World.frozen?_drew] at hs1_0); clear hc1 hf1)
  (go_wp2_with fail; refine (HD.out w1 us b' c' HA.out HU.out).mono ?_; rintro e w2 ⟨rfl, hb2⟩; obtain ⟨hc2, hf2, hz2⟩ := ext_facts hb2; (try simp at hz2); (have hq2_0 : w.heap.size < w2.heap.size := by omega); (have hl2_0 : w.heap.size ≤ w2.heap.size := by omega); (have hr2_0 := fun o => hc2 (w.heap.size) o (by first | omega | (simp; done) | (simp; omega))); (have hs2_0 := fun o => hf2 (w.heap.size) o (by first | omega | (simp; done) | (simp; omega))); (try simp (disch := first | omega | (simp; omega)) only [World.cell?_alloc_past, World.cell?_drew] at hr2_0); (try simp (disch := first | omega | (simp; omega)) only [World.frozen?_alloc_past, World.frozen?_drew] at hs2_0); clear hc2 hf2)
  (go_wp2_with fail; refine (out_ok res _).mono ?_; rintro e w3 ⟨rfl, hb3⟩; obtain ⟨hc3, hf3, hz3⟩ := ext_facts hb3; (try simp at hz3); (have hq3_0 : w.heap.size < w3.heap.size := by omega); (have hl3_0 : w.heap.size ≤ w3.heap.size := by omega); (have hr3_0 := fun o => hc3 (w.heap.size) o (by first | omega | (simp; done) | (simp; omega))); (have hs3_0 := fun o => hf3 (w.heap.size) o (by first | omega | (simp; done) | (simp; omega))); (try simp (disch := first | omega | (simp; omega)) only [World.cell?_alloc_past, World.cell?_drew] at hr3_0); (try simp (disch := first | omega | (simp; omega)) only [World.frozen?_alloc_past, World.frozen?_drew] at hs3_0); clear hc3 hf3)
  go_wp2
  exact bodyPost_ret (v := Iv.val res) (by simp [results, Tryz.results6, go_sem, *]) rfl ⟨rfl, (by repeat (first | with_reducible exact Below.refl _ _ | with_reducible assumption | ((with_reducible refine Below.setCell ?_ ?_ _); rotate_left; (simp; try omega)) | (with_reducible refine Ext.tr ?_ (by with_reducible assumption)) | (with_reducible refine Ext.al ?_ _) | (with_reducible refine below_drewN ?_ _) | (with_reducible refine Below.drew ?_)))⟩
end Go.Proofs.YtbehdafigmlnfaaGreatDoor
