/-
  agrees, where matrices are among the arguments.
-/
import Derived.Test.YtpcfmkongpmmmaaGreatDoorVt
import Derived.Test.YtpcfmkongpmmmaaGreatDoorK
namespace Go.Proofs.YtpcfmkongpmmmaaGreatDoor
set_option linter.unusedSimpArgs false
set_option linter.unusedVariables false
open Go Go.RowKit
set_option maxRecDepth 100000

set_option maxHeartbeats 6400000 in
/-- agrees: Wp is what is known of what the reference says; Pa of what all makes of the arguments. -/
theorem agrees_vt (fid : Nat) (hent : ∀ (args : Array Value) (w : World), (callFunc fid args).run Tryz.prog w = .ok (.enter fid args) w) (Wp : Sc → Prop) (Pa : World → Nat → Prop)
    (s : ByteArray) (ys : List (Mc × Vt Sc)) (n : Nat) (hn : n = ys.length) (b c : Nat) (w : World) (hx : ArgsIn w b 0 ys) (hne : flatOf ys ≠ []) (hl : ys.length ≤ 1000000000) (hN : (flatOf ys).length ≤ 1000000000)
    (hcall : ∀ w', Ext w w' → Calls Tryz.prog 10 #[.string s, .slice (some ⟨b, 0, none⟩) n c] w' fun e w2 => ∃ want : Sc, e = .returned want.val ∧ Wp want ∧ Ext w' w2)
    (hwp : ∀ want, Wp want → want.k ≠ 5)
    (hall : ∀ w', Ext w w' → Calls Tryz.prog 14 #[.slice (some ⟨b, 0, none⟩) n c] w' fun e w2 => ∃ b5 c5, e = .returned (.slice (some ⟨b5, 0, none⟩) n c5) ∧ Pa w2 b5 ∧ Ext w' w2)
    (hgo : (flatOf ys).any (fun y => y.k == 6) = false → ∀ want, Wp want → want.k ≠ 6 → ∃ r : Iv, FloatKind.f64.format.order r.f r.f = some Ordering.eq ∧ (∀ w', Calls Tryz.prog 23 #[want.val] w' (Gives w' r.val)) ∧
      ∀ w' b' c', Ext w w' → Pa w' b' → Calls Tryz.prog fid #[.slice (some ⟨b', 0, none⟩) n c'] w' (Gives w' r.val)) :
    Calls Tryz.prog 5 #[.func (.func fid) #[] #[], .string s, .slice (some ⟨b, 0, none⟩) n c] w (Gives w (.bool true)) := by
  have HC := Lib.hid hcall; clear hcall
  have HX := Lib.hid hx; clear hx
  have HNE := Lib.hid hne; clear hne
  have HWP := Lib.hid hwp; clear hwp
  have HALL := Lib.hid hall; clear hall
  have HGO := Lib.hid hgo; clear hgo
  have HL := Lib.hid hl; clear hl
  have HNN := Lib.hid hN; clear hN
  have HLEN := Lib.hid hn; clear hn
  go_enter Tryz.func5, Tryz.ntmps5
  go_wp2_with fail
  refine (HC.out _ (Ext.rf _)).mono ?_
  rintro e w1 ⟨want, rfl, hwant, hb1⟩
  have HWANT := Lib.hid hwant; clear hwant
  have HW5 := Lib.hid (HWP.out want HWANT.out)
  go_wp2_with fail
  refine (table_any _ _ _ _).mono ?_
  rintro e w2 ⟨rfl, hb2⟩
  have hcg : w2.cell? ⟨w1.heap.size + 1, 0, none⟩ = some (.slice (some ⟨b, 0, none⟩) n c) := hb2.get (by simp [go_sem])
  have hxw : Ext w w2 := ((hb1.al _).al _).tr hb2
  have hrows := Lib.hid (rows_vt w2 ys b 0 c (w1.heap.size + 1) 1 (HX.out.ext hxw) HNE.out HL.out (by have := HNN.out; omega) (by rw [← HLEN.out]; exact hcg))
  clear hcg
  have hw2 : ∀ i, w2.cell? ⟨w1.heap.size, i, none⟩ = (w1.alloc (.cells #[.int .i64 want.k, .int .i64 want.n, .int .i64 want.d, .string want.t, .slice none 0 0] 28)).cell? ⟨w1.heap.size, i, none⟩ := fun i => by
    rw [hb2.cell (p := ⟨w1.heap.size, i, none⟩) (by simp; omega), World.cell?_alloc_past _ _ _ (by simp)]
  go_wp2_with fail
  refine (doubtful_gen _ _ _ hrows.out (flatOf ys) (by simp [outOf]) HNE.out HNN.out).mono ?_
  cases hu : (flatOf ys).any fun y => y.k == 6
  case true =>
    rintro e w3 ⟨rfl, hb3⟩
    clear hu
    go_wp2
    go_ret
    exact ⟨rfl, hxw.tr hb3⟩
  case false =>
    rintro e w3 ⟨rfl, hb3⟩
    have HU := Lib.hid hu; clear hu
    have hw3 : ∀ i, w3.cell? ⟨w1.heap.size, i, none⟩ = (w1.alloc (.cells #[.int .i64 want.k, .int .i64 want.n, .int .i64 want.d, .string want.t, .slice none 0 0] 28)).cell? ⟨w1.heap.size, i, none⟩ := fun i => by
      rw [hb3.cell (p := ⟨w1.heap.size, i, none⟩) (by have := hb2.size; simp at this ⊢; omega), hw2]
    by_cases h6 : want.k = 6
    · have H6 := Lib.hid h6; clear h6
      go_wp2_with fail
      refine (doubtful_gen ⟨want.k, want.n, want.d, want.t, none, 0, 0⟩ [] _ (RowsOk.scalar _ want HW5.out) [want] (by unfold outOf; rw [if_neg (by exact HW5.out)]; rfl) (by simp) (by simp)).mono ?_
      rw [show ([want].any fun y => y.k == 6) = true by simp [H6.out]]
      rintro e w4 ⟨rfl, hb4⟩
      go_wp2
      go_ret
      exact ⟨rfl, (hxw.tr hb3).tr hb4⟩
    · obtain ⟨r, hrt, hr, hf⟩ := HGO.out HU.out want HWANT.out h6
      have H6 := Lib.hid h6; clear h6
      have HRT := Lib.hid hrt; clear hrt
      have HR := Lib.hid hr; clear hr
      have HF := Lib.hid hf; clear hf
      clear HGO HWANT
      go_wp2_with fail
      refine (doubtful_gen ⟨want.k, want.n, want.d, want.t, none, 0, 0⟩ [] _ (RowsOk.scalar _ want HW5.out) [want] (by simp [outOf, Mc.sc, HW5.out]) (by simp) (by simp)).mono ?_
      rw [show ([want].any fun y => y.k == 6) = false by simp [H6.out]]
      rintro e w4 ⟨rfl, hb4⟩
      have hsz3 : w1.heap.size < w3.heap.size := by have h1 := hb2.size; have h2 := hb3.size; simp at h1; omega
      have q : ∀ i v, (#[.int .i64 want.k, .int .i64 want.n, .int .i64 want.d, .string want.t, .slice none 0 0] : Array Value)[i]? = some v → w4.cell? ⟨w1.heap.size, i, none⟩ = some v := fun i v hv => by
        rw [hb4.cell (p := ⟨w1.heap.size, i, none⟩) hsz3, hw3, World.cell?_alloc_at _ _ _ _ rfl]; exact hv
      have q0 := q 0 _ rfl
      have q1 := q 1 _ rfl
      have q2 := q 2 _ rfl
      have q3 := q 3 _ rfl
      have q4 := q 4 _ rfl
      clear q hw2 hw3 hrows
      have hxw4 : Ext w w4 := (hxw.tr hb3).tr hb4
      clear hb1 hb2 hb3 hb4 hxw HX HU
      go_wp2_with fail
      go_region_held3 (fun w' => w'.cell? ⟨w1.heap.size, 0, none⟩ = some (.int .i64 want.k) ∧ w'.cell? ⟨w1.heap.size, 1, none⟩ = some (.int .i64 want.n) ∧ w'.cell? ⟨w1.heap.size, 2, none⟩ = some (.int .i64 want.d) ∧
          w'.cell? ⟨w1.heap.size, 3, none⟩ = some (.string want.t) ∧ w'.cell? ⟨w1.heap.size, 4, none⟩ = some (.slice none 0 0))
        (first | go_keep | (go_split_ands; exact ⟨Ext.get (by assumption) (by assumption), Ext.get (by assumption) (by assumption), Ext.get (by assumption) (by assumption), Ext.get (by assumption) (by assumption), Ext.get (by assumption) (by assumption)⟩))
        (first
          | (go_at_call 14; refine (HALL.out _ (by repeat (first | with_reducible exact Below.refl _ _ | with_reducible assumption | ((with_reducible refine Below.setCell ?_ ?_ _); rotate_left; (simp; try omega)) | (with_reducible refine Ext.tr ?_ (by with_reducible assumption)) | (with_reducible refine Ext.al ?_ _) | (with_reducible refine below_drewN ?_ _) | (with_reducible refine Below.drew ?_)))).mono ?_; rintro e w5 ⟨b5, c5, rfl, hlie5, hb5⟩)
          | (go_at_call 13; refine (same_ok r want _ HR.out HRT.out).mono ?_; rintro e w7 ⟨rfl, hb7⟩)
          | (refine (HF.out _ _ _ (by repeat (first | with_reducible exact Below.refl _ _ | with_reducible assumption | ((with_reducible refine Below.setCell ?_ ?_ _); rotate_left; (simp; try omega)) | (with_reducible refine Ext.tr ?_ (by with_reducible assumption)) | (with_reducible refine Ext.al ?_ _) | (with_reducible refine below_drewN ?_ _) | (with_reducible refine Below.drew ?_))) (by assumption)).mono ?_; rintro e w6 ⟨rfl, hb6⟩))
      go_wp2
      go_ret
      exact ⟨rfl, (by repeat (first | with_reducible exact Below.refl _ _ | with_reducible assumption | ((with_reducible refine Below.setCell ?_ ?_ _); rotate_left; (simp; try omega)) | (with_reducible refine Ext.tr ?_ (by with_reducible assumption)) | (with_reducible refine Ext.al ?_ _) | (with_reducible refine below_drewN ?_ _) | (with_reducible refine Below.drew ?_)))⟩
end Go.Proofs.YtpcfmkongpmmmaaGreatDoor
