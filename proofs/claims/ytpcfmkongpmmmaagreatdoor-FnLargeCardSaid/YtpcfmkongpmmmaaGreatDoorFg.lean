/-
  fold; Fits and Call of what is under Stat.
-/
import Derived.Test.YtpcfmkongpmmmaaGreatDoorMe
import Derived.Test.YtpcfmkongpmmmaaGreatDoorDisp
import Derived.Test.YtpcfmkongpmmmaaGreatDoorKv
namespace Go.Proofs.YtpcfmkongpmmmaaGreatDoor
set_option linter.unusedSimpArgs false
set_option linter.unusedVariables false
open Go Go.RowKit
set_option maxRecDepth 100000

abbrev unsSc : Sc := ⟨6, 0, 0, ⟨#[]⟩⟩

/-- What fold says. -/
def FoldP (ys : List (Mc × Vt Sc)) (Fp : Sc → Prop) (x : Sc) : Prop :=
  ((ys.all fun y => okArg y.2) = false ∧ x = unsSc) ∨ ((ys.all fun y => okArg y.2) = true ∧ ((∃ q, badOf ys = some q ∧ x = q) ∨ (badOf ys = none ∧ Fp x)))

set_option maxHeartbeats 1600000 in
theorem fold_ok (fid : Nat) (hent : ∀ (args : Array Value) (w : World), (callFunc fid args).run Tryz.prog w = .ok (.enter fid args) w) (Fp : Sc → Prop)
    (ys : List (Mc × Vt Sc)) (b o c : Nat) (w : World) (hl : ys.length ≤ 1000000) (hne : ys ≠ []) (hc : ys.length ≤ c) (hx : ArgsIn w b o ys)
    (h3 : ∀ y ∈ ys, ∀ x, y.2 = .sc x → x.k = 3 → x.n = 0 ∨ x.n = 1) (hN : ∀ y ∈ ys, (outArg y.2).length ≤ 1000)
    (hf : ∀ w' B v, Owns w' B v (outsOf ys) → (ys.all fun y => okArg y.2) = true → badOf ys = none → Calls Tryz.prog fid #[v] w' fun e w2 => ∃ x : Sc, e = .returned x.val ∧ Fp x ∧ Ext w' w2) :
    Calls Tryz.prog 49 #[.slice (some ⟨b, o, none⟩) ys.length c, .bool false, .func (.func fid) #[] #[]] w fun e w' => ∃ x : Sc, e = .returned x.val ∧ FoldP ys Fp x ∧ Ext w w' := by
  have HM := Lib.hid (fun w' (hw : Ext w w') => members_ok ys b o c w' hl hc (hx.ext hw) h3 hN)
  have HF := Lib.hid hf
  have hz : ¬ ((ys.length : Int) = 0) := by
    have := List.length_pos_iff.2 hne; omega
  clear hf hx h3 hN hne
  go_enter Tryz.func49, Tryz.ntmps49
  go_wp2_with fail
  refine (HM.out _ ((Ext.rf _).al _)).mono ?_
  rintro e w1 (⟨ha, rfl, hb1⟩ | ⟨ha, v, rfl, hown, hb1⟩)
  · have HA := Lib.hid ha; clear ha
    (obtain ⟨hc1, hf1, hz1⟩ := ext_facts hb1; (try simp at hz1); (have hq1_0 : w.heap.size < w1.heap.size := by omega); (have hl1_0 : w.heap.size ≤ w1.heap.size := by omega); (have hr1_0 := fun o => hc1 (w.heap.size) o (by first | omega | (simp; done) | (simp; omega))); (have hs1_0 := fun o => hf1 (w.heap.size) o (by first | omega | (simp; done) | (simp; omega))); (try simp (disch := first | omega | (simp; omega)) only [World.cell?_alloc_past, World.cell?_drew] at hr1_0); (try simp (disch := first | omega | (simp; omega)) only [World.frozen?_alloc_past, World.frozen?_drew] at hs1_0); clear hc1 hf1)
    go_wp2
    exact bodyPost_ret (v := unsure) (by simp [results, Tryz.results49, go_sem, *]) rfl ⟨unsSc, rfl, Or.inl ⟨HA.out, rfl⟩, (by repeat (first | with_reducible exact Below.refl _ _ | with_reducible assumption | ((with_reducible refine Below.setCell ?_ ?_ _); rotate_left; (simp; try omega)) | (with_reducible refine Ext.tr ?_ (by with_reducible assumption)) | (with_reducible refine Ext.al ?_ _) | (with_reducible refine below_drewN ?_ _) | (with_reducible refine Below.drew ?_)))⟩
  · have HA := Lib.hid ha; clear ha
    (obtain ⟨hc1, hf1, hz1⟩ := ext_facts hb1; (try simp at hz1); (have hq1_0 : w.heap.size < w1.heap.size := by omega); (have hl1_0 : w.heap.size ≤ w1.heap.size := by omega); (have hr1_0 := fun o => hc1 (w.heap.size) o (by first | omega | (simp; done) | (simp; omega))); (have hs1_0 := fun o => hf1 (w.heap.size) o (by first | omega | (simp; done) | (simp; omega))); (try simp (disch := first | omega | (simp; omega)) only [World.cell?_alloc_past, World.cell?_drew] at hr1_0); (try simp (disch := first | omega | (simp; omega)) only [World.frozen?_alloc_past, World.frozen?_drew] at hs1_0); clear hc1 hf1)
    cases hbo : badOf ys with
    | some q =>
      have HB := Lib.hid hbo
      simp only [Option.getD_some, Option.isSome_some]
      obtain ⟨qk, qn, qd, qt⟩ := q
      clear hbo hown
      go_wp2
      exact bodyPost_ret (v := Sc.val ⟨qk, qn, qd, qt⟩) (by simp [results, Tryz.results49, go_sem, *]) rfl ⟨⟨qk, qn, qd, qt⟩, rfl, Or.inr ⟨HA.out, Or.inl ⟨_, HB.out, rfl⟩⟩, (by repeat (first | with_reducible exact Below.refl _ _ | with_reducible assumption | ((with_reducible refine Below.setCell ?_ ?_ _); rotate_left; (simp; try omega)) | (with_reducible refine Ext.tr ?_ (by with_reducible assumption)) | (with_reducible refine Ext.al ?_ _) | (with_reducible refine below_drewN ?_ _) | (with_reducible refine Below.drew ?_)))⟩
    | none =>
      have HB := Lib.hid hbo
      simp only [Option.getD_none, Option.isSome_none]
      have HO := Lib.hid hown
      clear hbo hown
      go_wp2_with fail
      refine (HF.out _ _ _ (HO.out.alloc _) HA.out HB.out).mono ?_
      rintro e w2 ⟨x, rfl, hfx, hb2⟩
      have HX := Lib.hid hfx; clear hfx
      (obtain ⟨hc2, hf2, hz2⟩ := ext_facts hb2; (try simp at hz2); (have hq2_0 : w.heap.size < w2.heap.size := by omega); (have hl2_0 : w.heap.size ≤ w2.heap.size := by omega); (have hr2_0 := fun o => hc2 (w.heap.size) o (by first | omega | (simp; done) | (simp; omega))); (have hs2_0 := fun o => hf2 (w.heap.size) o (by first | omega | (simp; done) | (simp; omega))); (try simp (disch := first | omega | (simp; omega)) only [World.cell?_alloc_past, World.cell?_drew] at hr2_0); (try simp (disch := first | omega | (simp; omega)) only [World.frozen?_alloc_past, World.frozen?_drew] at hs2_0); clear hc2 hf2)
      obtain ⟨xk, xn, xd, xt⟩ := x
      go_wp2
      exact bodyPost_ret (v := Sc.val ⟨xk, xn, xd, xt⟩) (by simp [results, Tryz.results49, go_sem, *]) rfl ⟨⟨xk, xn, xd, xt⟩, rfl, Or.inr ⟨HA.out, Or.inr ⟨HB.out, HX.out⟩⟩, (by repeat (first | with_reducible exact Below.refl _ _ | with_reducible assumption | ((with_reducible refine Below.setCell ?_ ?_ _); rotate_left; (simp; try omega)) | (with_reducible refine Ext.tr ?_ (by with_reducible assumption)) | (with_reducible refine Ext.al ?_ _) | (with_reducible refine below_drewN ?_ _) | (with_reducible refine Below.drew ?_)))⟩

set_option maxHeartbeats 400000 in
theorem numeric_mat (n d : Int) (t : ByteArray) (a : Option Addr) (r c : Nat) (w : World) : Calls Tryz.prog 126 #[.agg #[.int .i64 5, .int .i64 n, .int .i64 d, .string t, .slice a r c]] w (Gives w (.bool false)) := by
  go_enter Tryz.func126, Tryz.ntmps126
  go_wp2
  go_ret
  exact ⟨rfl, (by repeat (first | with_reducible exact Below.refl _ _ | with_reducible assumption | ((with_reducible refine Below.setCell ?_ ?_ _); rotate_left; (simp; try omega)) | (with_reducible refine Ext.tr ?_ (by with_reducible assumption)) | (with_reducible refine Ext.al ?_ _) | (with_reducible refine below_drewN ?_ _) | (with_reducible refine Below.drew ?_)))⟩

set_option maxHeartbeats 800000 in
/-- every number: not where a matrix is the first argument. -/
theorem every_mat (n d : Int) (t : ByteArray) (a : Option Addr) (r rc : Nat) (b o l c : Nat) (w : World) (hl : 0 < l) (hx : At5m w b o ⟨5, n, d, t, a, r, rc⟩) :
    Calls Tryz.prog 125 #[.slice (some ⟨b, o, none⟩) l c, .func (.func 126) #[] #[]] w (Gives w (.bool false)) := by
  obtain ⟨c0, c1, c2, c3, c4⟩ := hx
  have hl' : (0 : Int) < l := by omega
  have HM := Lib.hid (fun w' => numeric_mat n d t a r rc w')
  go_enter Tryz.func125, Tryz.ntmps125
  go_wp2
  refine wp_loop_rounds 1 ?_
  rw [rounds_succ]
  go_wp2_with fail
  refine (HM.out _).mono ?_
  rintro e w1 ⟨rfl, hb1⟩
  go_wp2
  go_ret
  exact ⟨rfl, hb1⟩

set_option maxHeartbeats 800000 in
theorem fits_of_others (s : ByteArray) (a : Option Addr) (n c : Nat) (w : World)
    (h1 : ∀ w', Ext w w' → Calls Tryz.prog 45 #[.string s, .slice a n c] w' (Gives w' (.tuple #[.bool false, .bool false])))
    (h2 : ∀ w', Calls Tryz.prog 46 #[.string s, .slice a n c] w' (Gives w' (.tuple #[.bool false, .bool false])))
    (h3 : ∀ w', Calls Tryz.prog 47 #[.string s, .slice a n c] w' (Gives w' (.tuple #[.bool false, .bool false])))
    (h4 : ∀ w', Calls Tryz.prog 48 #[.string s] w' (Gives w' (.bool true))) :
    Calls Tryz.prog 32 #[.string s, .slice a n c] w (Gives w (.bool true)) := by
  have H1 := Lib.hid h1; clear h1
  have H2 := Lib.hid h2; clear h2
  have H3 := Lib.hid h3; clear h3
  have H4 := Lib.hid h4; clear h4
  go_enter Tryz.func32, Tryz.ntmps32
  go_wp2_with fail
  refine (H1.out _ (Ext.rf _)).mono ?_
  rintro e w1 ⟨rfl, hb1⟩
  go_wp2_with fail
  refine (H2.out _).mono ?_
  rintro e w2 ⟨rfl, hb2⟩
  go_wp2_with fail
  refine (H3.out _).mono ?_
  rintro e w3 ⟨rfl, hb3⟩
  go_wp2_with fail
  refine (H4.out _).mono ?_
  rintro e w4 ⟨rfl, hb4⟩
  go_wp2
  go_ret
  exact ⟨rfl, (by repeat (first | with_reducible exact Below.refl _ _ | with_reducible assumption | ((with_reducible refine Below.setCell ?_ ?_ _); rotate_left; (simp; try omega)) | (with_reducible refine Ext.tr ?_ (by with_reducible assumption)) | (with_reducible refine Ext.al ?_ _) | (with_reducible refine below_drewN ?_ _) | (with_reducible refine Below.drew ?_)))⟩

set_option maxHeartbeats 800000 in
/-- The dispatch down to Stat. -/
theorem call_stat (s : ByteArray) (Wp : Sc → Prop) (a : Option Addr) (n c : Nat) (w : World)
    (h1 : ∀ w', Ext w w' → Calls Tryz.prog 32 #[.string s, .slice a n c] w' (Gives w' (.bool true)))
    (h2 : ∀ w', Ext w w' → Calls Tryz.prog 33 #[.string s, .slice a n c] w' fun e w2 => ∃ x : Sc, e = .returned (.tuple #[x.val, .bool true]) ∧ Wp x ∧ Ext w' w2) :
    Calls Tryz.prog 10 #[.string s, .slice a n c] w fun e w' => ∃ x : Sc, e = .returned x.val ∧ Wp x ∧ Ext w w' := by
  have ho : ∀ w', Ext w w' → Calls Tryz.prog 21 #[.string s, .slice a n c, .slice a n c] w' fun e w2 => ∃ x : Sc, e = .returned x.val ∧ Wp x ∧ Ext w' w2 := by
    intro w' hw'
    have H1 := Lib.hid (fun w2 (h : Ext w' w2) => h1 w2 (hw'.tr h))
    have H2 := Lib.hid (fun w2 (h : Ext w' w2) => h2 w2 (hw'.tr h))
    clear h1 h2 hw'
    go_enter Tryz.func21, Tryz.ntmps21
    (go_wp2_with fail; refine (H1.out _ (by repeat (first | with_reducible exact Below.refl _ _ | with_reducible assumption | ((with_reducible refine Below.setCell ?_ ?_ _); rotate_left; (simp; try omega)) | (with_reducible refine Ext.tr ?_ (by with_reducible assumption)) | (with_reducible refine Ext.al ?_ _) | (with_reducible refine below_drewN ?_ _) | (with_reducible refine Below.drew ?_)))).mono ?_; rintro e w1 ⟨rfl, hb1⟩; obtain ⟨hc1, hf1, hz1⟩ := ext_facts hb1; (try simp at hz1); (have hq1_0 : w'.heap.size < w1.heap.size := by omega); (have hl1_0 : w'.heap.size ≤ w1.heap.size := by omega); (have hr1_0 := fun o => hc1 (w'.heap.size) o (by first | omega | (simp; done) | (simp; omega))); (have hs1_0 := fun o => hf1 (w'.heap.size) o (by first | omega | (simp; done) | (simp; omega))); (try simp (disch := first | omega | (simp; omega)) only [World.cell?_alloc_past, World.cell?_drew] at hr1_0); (try simp (disch := first | omega | (simp; omega)) only [World.frozen?_alloc_past, World.frozen?_drew] at hs1_0); clear hc1 hf1)
    go_wp2_with fail
    refine (H2.out _ (by repeat (first | with_reducible exact Below.refl _ _ | with_reducible assumption | ((with_reducible refine Below.setCell ?_ ?_ _); rotate_left; (simp; try omega)) | (with_reducible refine Ext.tr ?_ (by with_reducible assumption)) | (with_reducible refine Ext.al ?_ _) | (with_reducible refine below_drewN ?_ _) | (with_reducible refine Below.drew ?_)))).mono ?_
    rintro e w2 ⟨x, rfl, hx, hb2⟩
    have HX := Lib.hid hx; clear hx
    (obtain ⟨hc2, hf2, hz2⟩ := ext_facts hb2; (try simp at hz2); (have hq2_0 : w'.heap.size < w2.heap.size := by omega); (have hl2_0 : w'.heap.size ≤ w2.heap.size := by omega); (have hr2_0 := fun o => hc2 (w'.heap.size) o (by first | omega | (simp; done) | (simp; omega))); (have hs2_0 := fun o => hf2 (w'.heap.size) o (by first | omega | (simp; done) | (simp; omega))); (try simp (disch := first | omega | (simp; omega)) only [World.cell?_alloc_past, World.cell?_drew] at hr2_0); (try simp (disch := first | omega | (simp; omega)) only [World.frozen?_alloc_past, World.frozen?_drew] at hs2_0); clear hc2 hf2)
    obtain ⟨xk, xn, xd, xt⟩ := x
    go_wp2
    exact bodyPost_ret (v := Sc.val ⟨xk, xn, xd, xt⟩) (by simp [results, Tryz.results21, go_sem, *]) rfl ⟨⟨xk, xn, xd, xt⟩, rfl, HX.out, (by repeat (first | with_reducible exact Below.refl _ _ | with_reducible assumption | ((with_reducible refine Below.setCell ?_ ?_ _); rotate_left; (simp; try omega)) | (with_reducible refine Ext.tr ?_ (by with_reducible assumption)) | (with_reducible refine Ext.al ?_ _) | (with_reducible refine below_drewN ?_ _) | (with_reducible refine Below.drew ?_)))⟩
  have H := Lib.hid ho; clear ho h1 h2
  go_enter Tryz.func10, Tryz.ntmps10
  go_wp2_with fail
  refine (H.out _ (by repeat (first | with_reducible exact Below.refl _ _ | with_reducible assumption | ((with_reducible refine Below.setCell ?_ ?_ _); rotate_left; (simp; try omega)) | (with_reducible refine Ext.tr ?_ (by with_reducible assumption)) | (with_reducible refine Ext.al ?_ _) | (with_reducible refine below_drewN ?_ _) | (with_reducible refine Below.drew ?_)))).mono ?_
  rintro e w1 ⟨x, rfl, hx, hb1⟩
  have HX := Lib.hid hx; clear hx
  (obtain ⟨hc1, hf1, hz1⟩ := ext_facts hb1; (try simp at hz1); (have hq1_0 : w.heap.size < w1.heap.size := by omega); (have hl1_0 : w.heap.size ≤ w1.heap.size := by omega); (have hr1_0 := fun o => hc1 (w.heap.size) o (by first | omega | (simp; done) | (simp; omega))); (have hs1_0 := fun o => hf1 (w.heap.size) o (by first | omega | (simp; done) | (simp; omega))); (try simp (disch := first | omega | (simp; omega)) only [World.cell?_alloc_past, World.cell?_drew] at hr1_0); (try simp (disch := first | omega | (simp; omega)) only [World.frozen?_alloc_past, World.frozen?_drew] at hs1_0); clear hc1 hf1)
  obtain ⟨xk, xn, xd, xt⟩ := x
  go_wp2
  exact bodyPost_ret (v := Sc.val ⟨xk, xn, xd, xt⟩) (by simp [results, Tryz.results10, go_sem, *]) rfl ⟨⟨xk, xn, xd, xt⟩, rfl, HX.out, (by repeat (first | with_reducible exact Below.refl _ _ | with_reducible assumption | ((with_reducible refine Below.setCell ?_ ?_ _); rotate_left; (simp; try omega)) | (with_reducible refine Ext.tr ?_ (by with_reducible assumption)) | (with_reducible refine Ext.al ?_ _) | (with_reducible refine below_drewN ?_ _) | (with_reducible refine Below.drew ?_)))⟩
end Go.Proofs.YtpcfmkongpmmmaaGreatDoor
