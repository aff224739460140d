/-
  FnUpper: what the call comes to.
-/
import Derived.Test.YtdbfkacbpnfchaaGreatDoorPUp
namespace Go.Proofs.YtdbfkacbpnfchaaGreatDoor
set_option linter.unusedSimpArgs false
set_option linter.unusedVariables false
open Go Go.RowKit
set_option maxRecDepth 100000

theorem pack_upper (s : ByteArray) (b c : Nat) (w : World) (hs : s.size ≤ 1000000000) (ha : asciiT s = true) (hl : LieI w b 0 [ivt s]) :
    Calls Tryz.prog 6 #[.slice (some ⟨b, 0, none⟩) 1 c] w (Gives w (ivt ⟨(Lib.toUpperA s.data.toList).toArray⟩).val) := by
  refine impl_UPPER [ivt s] (ivt ⟨(Lib.toUpperA s.data.toList).toArray⟩) b c w (by simp) (by simp) hl fun w2 b2 c2 hl2 => ?_
  refine door_UPPER (fun x => fstrC x.t) [ivt s] (fstr ⟨(Lib.toUpperA s.data.toList).toArray⟩) (ivt ⟨(Lib.toUpperA s.data.toList).toArray⟩) b2 0 c2 w2 (by simp) hl2 (fun u w3 hu => ?_) (fun w3 fb p B ha2 => fn_upper s fb p B w3 hs ha ha2) (fun w3 => doorArg_text _ w3)
  have e : u = ivt s := by simpa using hu
  subst e; exact innerArg_text s w3

theorem agrees_upper (s : ByteArray) (w : World) (b c : Nat) (hs : s.size ≤ 1000000000) (hx : Lie w b 0 [txtSc s]) :
    Calls Tryz.prog 5 #[.func (.func 6) #[] #[], .string ⟨#[85, 80, 80, 69, 82]⟩, .slice (some ⟨b, 0, none⟩) 1 c] w (Gives w (.bool true)) := by
  by_cases ha : asciiT s = true
  · refine agrees_ok 6 (fun args w => Tryz.call6 args w) (fun _ => ivt s) (ivt ⟨(Lib.toUpperA s.data.toList).toArray⟩) ⟨#[85, 80, 80, 69, 82]⟩ [txtSc s] (txtSc ⟨(Lib.toUpperA s.data.toList).toArray⟩) b 0 c w hx
      (by simp) (by simp) (by simp) (by simp) (by simp) (by simp) ?_ ?_ ?_ ?_ (show FloatKind.f64.format.order 0 0 = some Ordering.eq by decide)
    · exact fun w' hw => call_of _ _ _ _ (txtSc ⟨(Lib.toUpperA s.data.toList).toArray⟩) w' fun w2 hw2 => callOver_upper s b 0 c w2 hs ha (hx.ext (hw.tr hw2))
    · intro x w' hm
      have e : x = txtSc s := by simpa using hm
      subst e
      exact of_text s w'
    · exact fun w' b' c' hl => pack_upper s b' c' w' hs ha hl
    · exact fun w' => of_text _ w'
  · refine agrees_unsure_want _ _ [txtSc s] ⟨6, 0, 0, ⟨#[]⟩⟩ b 0 c w hx (by simp) (by simp) (by simp) (by simp) rfl
      fun w' hw => call_of _ _ _ _ ⟨6, 0, 0, ⟨#[]⟩⟩ w' fun w2 hw2 => callOver_no _ _ _ _ w2 fun w3 hw3 => ?_
    have h := fits_upper s b 0 c w3 hs (hx.ext ((hw.tr hw2).tr hw3))
    rwa [show asciiT s = false by simpa using ha] at h

set_option maxHeartbeats 800000 in
theorem FnUpper.law_of (s : ByteArray) (w : World) (_ : s.size ≤ maxLen) :
    Calls Tryz.prog 3 #[.string s] w fun e w' => e = .returned (.bool true) ∧ Below w.heap.size w w' := by
  by_cases hz : s.size ≤ 1000
  · have hag := fun w' b (h : Lie w' b 0 [txtSc s]) => agrees_upper s w' b 1 (by omega) h
    have HG := Lib.hid hag; clear hag
    have hsh := fun b c w' h => short_one s b c w' h
    rw [decide_eq_true hz] at hsh
    have HS := Lib.hid hsh; clear hsh
    have hbig : ¬ (2147483647 : Int) < (s.size : Int) := by omega
    go_enter Tryz.func3, Tryz.ntmps3
    go_wp2_with fail
    refine (HS.out w.heap.size 1 _ (World.cell?_alloc_at _ _ _ _ rfl)).mono ?_
    rintro e w1 ⟨rfl, hb1⟩
    (go_wp2_with fail; refine (str_any s _).mono ?_; rintro e w2 ⟨rfl, hb2⟩; obtain ⟨hc2, hf2, hz2⟩ := ext_facts hb2; (try simp at hz2); clear hc2 hf2)
    go_wp2_with fail
    refine (HG.out _ w2.heap.size (lie_one w2 (txtSc s))).mono ?_
    rintro e w3 ⟨rfl, hb3⟩
    go_wp2
    go_ret
    exact ⟨rfl, (by repeat (first | with_reducible exact Below.refl _ _ | with_reducible assumption | ((with_reducible refine Below.setCell ?_ ?_ _); rotate_left; (simp; try omega)) | (with_reducible refine Ext.tr ?_ (by with_reducible assumption)) | (with_reducible refine Ext.al ?_ _) | (with_reducible refine below_drewN ?_ _) | (with_reducible refine Below.drew ?_)))⟩
  · by_cases hz2 : (2147483647 : Int) < (s.size : Int)
    · go_enter Tryz.func3, Tryz.ntmps3
      go_wp2
      go_ret
      exact ⟨rfl, (by repeat (first | with_reducible exact Below.refl _ _ | with_reducible assumption | ((with_reducible refine Below.setCell ?_ ?_ _); rotate_left; (simp; try omega)) | (with_reducible refine Ext.tr ?_ (by with_reducible assumption)) | (with_reducible refine Ext.al ?_ _) | (with_reducible refine below_drewN ?_ _) | (with_reducible refine Below.drew ?_)))⟩
    · have hsh := fun b c w' h => short_one s b c w' h
      rw [decide_eq_false hz] at hsh
      have HS := Lib.hid hsh; clear hsh
      go_enter Tryz.func3, Tryz.ntmps3
      go_wp2_with fail
      refine (HS.out w.heap.size 1 _ (World.cell?_alloc_at _ _ _ _ rfl)).mono ?_
      rintro e w1 ⟨rfl, hb1⟩
      go_wp2
      go_ret
      exact ⟨rfl, (by repeat (first | with_reducible exact Below.refl _ _ | with_reducible assumption | ((with_reducible refine Below.setCell ?_ ?_ _); rotate_left; (simp; try omega)) | (with_reducible refine Ext.tr ?_ (by with_reducible assumption)) | (with_reducible refine Ext.al ?_ _) | (with_reducible refine below_drewN ?_ _) | (with_reducible refine Below.drew ?_)))⟩
end Go.Proofs.YtdbfkacbpnfchaaGreatDoor
