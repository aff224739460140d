/-
  same, Call, agrees.
-/
import Derived.Test.YtpcfmkongpmmmaaGreatDoorM
import Derived.Deep.RegionHeld3
namespace Go.Proofs.YtpcfmkongpmmmaaGreatDoor
set_option linter.unusedSimpArgs false
set_option linter.unusedVariables false
open Go Go.RowKit
set_option maxRecDepth 100000

set_option maxHeartbeats 800000 in
theorem same_ok (x : Iv) (v : Sc) (w : World) (hof : ∀ w', Calls Tryz.prog 23 #[v.val] w' (Gives w' x.val)) (hx : FloatKind.f64.format.order x.f x.f = some Ordering.eq) :
    Calls Tryz.prog 13 #[x.val, v.val] w (Gives w (.bool true)) := by
  have HF := Lib.hid hof; clear hof
  go_enter Tryz.func13, Tryz.ntmps13
  go_wp2_with fail
  refine (HF.out _).mono ?_
  rintro e w1 ⟨rfl, hb⟩
  obtain ⟨hc, hf, hz⟩ := ext_facts hb; (try simp at hz); (try (have hq : w.heap.size < w1.heap.size := by omega)); (try (have hq' : w.heap.size ≤ w1.heap.size := by omega)); (try (have hr := fun o => hc w.heap.size o (by first | omega | (simp; done) | (simp; omega)))); (try (have hrf := fun o => hf w.heap.size o (by first | omega | (simp; done) | (simp; omega))))
  have hr1 := fun o => hc (w.heap.size + 1) o (by simp)
  have hq1 : w.heap.size + 1 < w1.heap.size := by omega
  go_wp2_with fail
  refine wp_loop_rounds 1 ?_
  rw [rounds_succ]
  go_wp2
  go_ret
  exact ⟨rfl, (by repeat (first | with_reducible exact Below.refl _ _ | with_reducible assumption | ((with_reducible refine Below.setCell ?_ ?_ _); rotate_left; (simp; try omega)) | (with_reducible refine Ext.tr ?_ (by with_reducible assumption)) | (with_reducible refine Ext.al ?_ _) | (with_reducible refine below_drewN ?_ _) | (with_reducible refine Below.drew ?_)))⟩

set_option maxHeartbeats 400000 in
theorem call_of (s : ByteArray) (a : Option Addr) (n c : Nat) (x : Sc) (w : World)
    (h : ∀ w', Ext w w' → Calls Tryz.prog 21 #[.string s, .slice a n c, .slice a n c] w' (Gives w' x.val)) :
    Calls Tryz.prog 10 #[.string s, .slice a n c] w (Gives w x.val) := by
  have H := Lib.hid h; clear h
  go_enter Tryz.func10, Tryz.ntmps10
  go_wp2_with (go_at_call 21; refine (H.out _ ((Ext.rf _).al _)).mono ?_; rintro e w1 ⟨rfl, hb⟩; obtain ⟨hc, hf, hz⟩ := ext_facts hb; (try simp at hz); (try (have hq : w.heap.size < w1.heap.size := by omega)); (try (have hq' : w.heap.size ≤ w1.heap.size := by omega)); (try (have hr := fun o => hc w.heap.size o (by first | omega | (simp; done) | (simp; omega)))); (try (have hrf := fun o => hf w.heap.size o (by first | omega | (simp; done) | (simp; omega)))))
  exact bodyPost_ret (v := x.val) (by simp [results, Tryz.results10, go_sem, *]) rfl ⟨rfl, (by repeat (first | with_reducible exact Below.refl _ _ | with_reducible assumption | ((with_reducible refine Below.setCell ?_ ?_ _); rotate_left; (simp; try omega)) | (with_reducible refine Ext.tr ?_ (by with_reducible assumption)) | (with_reducible refine Ext.al ?_ _) | (with_reducible refine below_drewN ?_ _) | (with_reducible refine Below.drew ?_)))⟩

/-- The arguments as one row of a matrix: Flat makes a copy of them. -/
theorem rows_args (w : World) (xs : List Sc) (b o c g : Nat) (rc : Nat) (hx : Lie w b o xs) (hne : xs ≠ []) (hl : xs.length ≤ 1000000000) (hk : ∀ x ∈ xs, x.k ≠ 5)
    (hg : w.cell? ⟨g, 0, none⟩ = some (.slice (some ⟨b, o, none⟩) xs.length c)) : RowsOk w ⟨5, 0, 0, ⟨#[]⟩, some ⟨g, 0, none⟩, 1, rc⟩ [xs] := by
  refine ⟨fun h => absurd rfl h, fun _ => ⟨rfl, by simp, fun i row hi => ?_⟩⟩
  cases i with
  | zero =>
    have e : xs = row := by simpa using hi
    subst e
    exact ⟨hne, g, 0, some ⟨b, o, none⟩, xs.length, c, rfl, hg, fun w' hw' => flat_scalars xs b o c w' hl (hx.ext hw') hk⟩
  | succ i => simp at hi

set_option maxHeartbeats 1600000 in
/-- agrees, where the reference says nothing of an argument. -/
theorem agrees_unsure_arg (f : Value) (s : ByteArray) (xs : List Sc) (want : Sc) (b o c : Nat) (w : World) (hx : Lie w b o xs) (hne : xs ≠ []) (hl : xs.length ≤ 1000000000) (hk : ∀ x ∈ xs, x.k ≠ 5)
    (hu : xs.any (fun y => y.k == 6) = true)
    (hcall : ∀ w', Ext w w' → Calls Tryz.prog 10 #[.string s, .slice (some ⟨b, o, none⟩) xs.length c] w' (Gives w' want.val)) :
    Calls Tryz.prog 5 #[f, .string s, .slice (some ⟨b, o, none⟩) xs.length c] w (Gives w (.bool true)) := by
  have HC := Lib.hid hcall; clear hcall
  have HX := Lib.hid hx; clear hx
  have HU := Lib.hid hu; clear hu
  have HK := Lib.hid hk; clear hk
  have HNE := Lib.hid hne; clear hne
  go_enter Tryz.func5, Tryz.ntmps5
  go_wp2_with fail
  refine (HC.out _ (Ext.rf _)).mono ?_
  rintro e w1 ⟨rfl, hb1⟩
  go_wp2_with fail
  refine (table_any _ _ _ _).mono ?_
  rintro e w2 ⟨rfl, hb2⟩
  have hcg : w2.cell? ⟨w1.heap.size + 1, 0, none⟩ = some (.slice (some ⟨b, o, none⟩) xs.length c) := hb2.get (by simp [go_sem])
  have hxw : Ext w w2 := ((hb1.al _).al _).tr hb2
  have hrows := Lib.hid (rows_args w2 xs b o c (w1.heap.size + 1) 1 (HX.out.ext hxw) HNE.out hl HK.out hcg)
  clear hcg
  go_wp2_with fail
  refine (doubtful_gen _ _ _ hrows.out xs (by simp [outOf]) HNE.out hl).mono ?_
  rw [HU.out]
  rintro e w3 ⟨rfl, hb3⟩
  go_wp2
  go_ret
  exact ⟨rfl, hxw.tr hb3⟩

set_option maxHeartbeats 1600000 in
/-- agrees, where the reference says nothing of the result. -/
theorem agrees_unsure_want (f : Value) (s : ByteArray) (xs : List Sc) (want : Sc) (b o c : Nat) (w : World) (hx : Lie w b o xs) (hne : xs ≠ []) (hl : xs.length ≤ 1000000000) (hk : ∀ x ∈ xs, x.k ≠ 5)
    (hu : xs.any (fun y => y.k == 6) = false) (hw : want.k = 6)
    (hcall : ∀ w', Ext w w' → Calls Tryz.prog 10 #[.string s, .slice (some ⟨b, o, none⟩) xs.length c] w' (Gives w' want.val)) :
    Calls Tryz.prog 5 #[f, .string s, .slice (some ⟨b, o, none⟩) xs.length c] w (Gives w (.bool true)) := by
  have HC := Lib.hid hcall; clear hcall
  have HX := Lib.hid hx; clear hx
  have HU := Lib.hid hu; clear hu
  have HK := Lib.hid hk; clear hk
  have HNE := Lib.hid hne; clear hne
  have HW := Lib.hid hw; clear hw
  go_enter Tryz.func5, Tryz.ntmps5
  go_wp2_with fail
  refine (HC.out _ (Ext.rf _)).mono ?_
  rintro e w1 ⟨rfl, hb1⟩
  go_wp2_with fail
  refine (table_any _ _ _ _).mono ?_
  rintro e w2 ⟨rfl, hb2⟩
  have hcg : w2.cell? ⟨w1.heap.size + 1, 0, none⟩ = some (.slice (some ⟨b, o, none⟩) xs.length c) := hb2.get (by simp [go_sem])
  have hxw : Ext w w2 := ((hb1.al _).al _).tr hb2
  have hrows := Lib.hid (rows_args w2 xs b o c (w1.heap.size + 1) 1 (HX.out.ext hxw) HNE.out hl HK.out hcg)
  clear hcg
  have hw2 : ∀ i, w2.cell? ⟨w1.heap.size, i, none⟩ = (w1.alloc (.cells #[.int .i64 want.k, .int .i64 want.n, .int .i64 want.d, .string want.t, .slice none 0 0] 28)).cell? ⟨w1.heap.size, i, none⟩ := fun i => by
    rw [hb2.cell (p := ⟨w1.heap.size, i, none⟩) (by simp; omega), World.cell?_alloc_past _ _ _ (by simp)]
  go_wp2_with fail
  refine (doubtful_gen _ _ _ hrows.out xs (by simp [outOf]) HNE.out hl).mono ?_
  rw [HU.out]
  rintro e w3 ⟨rfl, hb3⟩
  have hw3 : ∀ i, w3.cell? ⟨w1.heap.size, i, none⟩ = (w1.alloc (.cells #[.int .i64 want.k, .int .i64 want.n, .int .i64 want.d, .string want.t, .slice none 0 0] 28)).cell? ⟨w1.heap.size, i, none⟩ := fun i => by
    rw [hb3.cell (p := ⟨w1.heap.size, i, none⟩) (by have := hb2.size; simp at this ⊢; omega), hw2]
  go_wp2_with fail
  refine (doubtful_gen ⟨want.k, want.n, want.d, want.t, none, 0, 0⟩ [] _ (RowsOk.scalar _ want (by rw [HW.out]; decide)) [want] (by unfold outOf; rw [if_neg (by show ¬ want.k = 5; rw [HW.out]; decide)]; rfl) (by simp) (by simp)).mono ?_
  rw [show ([want].any fun y => y.k == 6) = true by simp [HW.out]]
  rintro e w4 ⟨rfl, hb4⟩
  go_wp2
  go_ret
  exact ⟨rfl, (hxw.tr hb3).tr hb4⟩

set_option maxHeartbeats 3200000 in
/-- agrees: where both sides say the same. -/
theorem agrees_ok (fid : Nat) (hent : ∀ (args : Array Value) (w : World), (callFunc fid args).run Tryz.prog w = .ok (.enter fid args) w) (g : Sc → Iv) (r : Iv)
    (s : ByteArray) (xs : List Sc) (want : Sc) (b o c : Nat) (w : World) (hx : Lie w b o xs) (hne : xs ≠ []) (hl : xs.length ≤ 1000000000) (hk : ∀ x ∈ xs, x.k ≠ 5)
    (hu : xs.any (fun y => y.k == 6) = false) (hw : want.k ≠ 6) (hw5 : want.k ≠ 5)
    (hcall : ∀ w', Ext w w' → Calls Tryz.prog 10 #[.string s, .slice (some ⟨b, o, none⟩) xs.length c] w' (Gives w' want.val))
    (hg : ∀ x w', x ∈ xs → Calls Tryz.prog 23 #[x.val] w' (Gives w' (g x).val))
    (hf : ∀ w' b' c', LieI w' b' 0 (xs.map g) → Calls Tryz.prog fid #[.slice (some ⟨b', 0, none⟩) xs.length c'] w' (Gives w' r.val))
    (hr : ∀ w', Calls Tryz.prog 23 #[want.val] w' (Gives w' r.val)) (hrt : FloatKind.f64.format.order r.f r.f = some Ordering.eq) :
    Calls Tryz.prog 5 #[.func (.func fid) #[] #[], .string s, .slice (some ⟨b, o, none⟩) xs.length c] w (Gives w (.bool true)) := by
  have HC := Lib.hid hcall; clear hcall
  have HX := Lib.hid hx; clear hx
  have HU := Lib.hid hu; clear hu
  have HK := Lib.hid hk; clear hk
  have HNE := Lib.hid hne; clear hne
  have HW := Lib.hid hw; clear hw
  have HW5 := Lib.hid hw5; clear hw5
  have HG := Lib.hid hg; clear hg
  have HF := Lib.hid hf; clear hf
  have HR := Lib.hid hr; clear hr
  have HRT := Lib.hid hrt; clear hrt
  go_enter Tryz.func5, Tryz.ntmps5
  go_wp2_with fail
  refine (HC.out _ (Ext.rf _)).mono ?_
  rintro e w1 ⟨rfl, hb1⟩
  go_wp2_with fail
  refine (table_any _ _ _ _).mono ?_
  rintro e w2 ⟨rfl, hb2⟩
  have hcg : w2.cell? ⟨w1.heap.size + 1, 0, none⟩ = some (.slice (some ⟨b, o, none⟩) xs.length c) := hb2.get (by simp [go_sem])
  have hxw : Ext w w2 := ((hb1.al _).al _).tr hb2
  have hrows := Lib.hid (rows_args w2 xs b o c (w1.heap.size + 1) 1 (HX.out.ext hxw) HNE.out hl HK.out hcg)
  clear hcg
  have hw2 : ∀ i, w2.cell? ⟨w1.heap.size, i, none⟩ = (w1.alloc (.cells #[.int .i64 want.k, .int .i64 want.n, .int .i64 want.d, .string want.t, .slice none 0 0] 28)).cell? ⟨w1.heap.size, i, none⟩ := fun i => by
    rw [hb2.cell (p := ⟨w1.heap.size, i, none⟩) (by simp; omega), World.cell?_alloc_past _ _ _ (by simp)]
  go_wp2_with fail
  refine (doubtful_gen _ _ _ hrows.out xs (by simp [outOf]) HNE.out hl).mono ?_
  rw [HU.out]
  rintro e w3 ⟨rfl, hb3⟩
  have hw3 : ∀ i, w3.cell? ⟨w1.heap.size, i, none⟩ = (w1.alloc (.cells #[.int .i64 want.k, .int .i64 want.n, .int .i64 want.d, .string want.t, .slice none 0 0] 28)).cell? ⟨w1.heap.size, i, none⟩ := fun i => by
    rw [hb3.cell (p := ⟨w1.heap.size, i, none⟩) (by have := hb2.size; simp at this ⊢; omega), hw2]
  go_wp2_with fail
  refine (doubtful_gen ⟨want.k, want.n, want.d, want.t, none, 0, 0⟩ [] _ (RowsOk.scalar _ want HW5.out) [want] (by simp [outOf, Mc.sc, HW5.out]) (by simp) (by simp)).mono ?_
  rw [show ([want].any fun y => y.k == 6) = false by simp [HW.out]]
  rintro e w4 ⟨rfl, hb4⟩
  have hsz3 : w1.heap.size < w3.heap.size := by have h1 := hb2.size; have h2 := hb3.size; simp at h1; omega
  have q : ∀ i v, (#[.int .i64 want.k, .int .i64 want.n, .int .i64 want.d, .string want.t, .slice none 0 0] : Array Value)[i]? = some v → w4.cell? ⟨w1.heap.size, i, none⟩ = some v := fun i v hv => by
    rw [hb4.cell (p := ⟨w1.heap.size, i, none⟩) hsz3, hw3, World.cell?_alloc_at _ _ _ _ rfl]; exact hv
  have q0 := q 0 _ rfl
  have q1 := q 1 _ rfl
  have q2 := q 2 _ rfl
  have q3 := q 3 _ rfl
  have q4 := q 4 _ rfl
  clear q hw2 hw3 hrows
  have hxw4 : Ext w w4 := (hxw.tr hb3).tr hb4
  have HX4 := Lib.hid (HX.out.ext hxw4)
  clear hb1 hb2 hb3 hb4 hxw HX
  go_wp2_with fail
  go_region_held3 (fun w' => w'.cell? ⟨w1.heap.size, 0, none⟩ = some (.int .i64 want.k) ∧ w'.cell? ⟨w1.heap.size, 1, none⟩ = some (.int .i64 want.n) ∧ w'.cell? ⟨w1.heap.size, 2, none⟩ = some (.int .i64 want.d) ∧
      w'.cell? ⟨w1.heap.size, 3, none⟩ = some (.string want.t) ∧ w'.cell? ⟨w1.heap.size, 4, none⟩ = some (.slice none 0 0))
    (first | go_keep | (go_split_ands; exact ⟨Ext.get (by assumption) (by assumption), Ext.get (by assumption) (by assumption), Ext.get (by assumption) (by assumption), Ext.get (by assumption) (by assumption), Ext.get (by assumption) (by assumption)⟩))
    (first
      | (go_at_call 14; refine (all_at g xs b o c _ hl (by exact HX4.out) HNE.out HG.out).mono ?_; rintro e w5 ⟨b5, c5, rfl, hlie5, hb5⟩)
      | (go_at_call 13; refine (same_ok r want _ HR.out HRT.out).mono ?_; rintro e w7 ⟨rfl, hb7⟩)
      | (refine (HF.out _ _ _ (by assumption)).mono ?_; rintro e w6 ⟨rfl, hb6⟩))
  go_wp2
  go_ret
  exact ⟨rfl, (by repeat (first | with_reducible exact Below.refl _ _ | with_reducible assumption | ((with_reducible refine Below.setCell ?_ ?_ _); rotate_left; (simp; try omega)) | (with_reducible refine Ext.tr ?_ (by with_reducible assumption)) | (with_reducible refine Ext.al ?_ _) | (with_reducible refine below_drewN ?_ _) | (with_reducible refine Below.drew ?_)))⟩
end Go.Proofs.YtpcfmkongpmmmaaGreatDoor
