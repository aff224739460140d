/-
  FnOdd: what the call comes to.
-/
import Derived.Test.YtobidgofiogndaaGreatDoorPOdd
import Derived.Test.YtobidgofiogndaaGreatDoorPart
namespace Go.Proofs.YtobidgofiogndaaGreatDoor
set_option linter.unusedSimpArgs false
set_option linter.unusedVariables false
open Go Go.RowKit
set_option maxRecDepth 100000

theorem gnum_int {n : Int} (h1 : -99999999999 ≤ n) (h2 : n ≤ 99999999999) : gnum ⟨1, n, 1, ⟨#[]⟩⟩ = ivn (Fl.fx 0 n) := by
  unfold gnum
  rw [show (⟨1, n, 1, ⟨#[]⟩⟩ : Sc).n * (16 / (⟨1, n, 1, ⟨#[]⟩⟩ : Sc).d) = 16 * n by show n * (16 / 1) = 16 * n; omega, f16_whole (by omega) (by omega)]

theorem of_int {n : Int} (h1 : -99999999999 ≤ n) (h2 : n ≤ 99999999999) (w : World) : Calls Tryz.prog 18 #[(⟨1, n, 1, ⟨#[]⟩⟩ : Sc).val] w (Gives w (ivn (Fl.fx 0 n)).val) := by
  rw [← f16_whole (n := n) (by omega) (by omega)]
  exact of_num n 1 (16 * n) w (Or.inl rfl) (by omega) h1 h2

theorem one_all {p : Sc → Prop} {x : Sc} (h1 : p x) : ∀ z ∈ [x], p z := by
  intro z hz
  have e : z = x := by simpa using hz
  subst e; exact h1

theorem pack_odd (n : Int) (b c : Nat) (w : World) (n1 : -99999999999 ≤ n) (n2 : n ≤ 99999999999) (hl : LieI w b 0 [ivn (Fl.fx 0 n)]) :
    Calls Tryz.prog 5 #[.slice (some ⟨b, 0, none⟩) 1 c] w (Gives w (Iv.val (ivn (Fl.fx 0 (oddOf n))))) :=
  pack_ODD (Fl.fx 0 n) (fnum (Fl.fx 0 (oddOf n))) (ivn (Fl.fx 0 (oddOf n))) (tame_fx0 (by omega) (by omega)) b c w hl (fun w3 fb p B ha => fn_odd n fb p B w3 n1 n2 ha) (fun w3 => doorArg_num _ w3)

set_option maxHeartbeats 800000 in
theorem agrees_odd (Z : Int) (x : Sc) (w : World) (b c : Nat) (hx : Lie w b 0 [x]) (h : ArgOk Z x) :
    Calls Tryz.prog 4 #[.func (.func 5) #[] #[], .string ⟨#[79, 68, 68]⟩, .slice (some ⟨b, 0, none⟩) 1 c] w (Gives w (.bool true)) := by
  rcases h with ⟨⟨hk, hd, n1, n2⟩, ht, _⟩ | rfl
  · obtain ⟨k, n, d, t⟩ := x
    simp only at hk hd n1 n2 ht
    subst hk ht
    have hover := fun w' (hw : Ext w w') => callOver_odd n d b 0 c w' (hx.ext hw) n1 n2
    by_cases h1 : d = 1
    · subst h1
      have hb := odd_bound n1 n2
      rw [show oddSc n 1 = ⟨1, oddOf n, 1, ⟨#[]⟩⟩ from if_pos rfl] at hover
      have hfn := fun w3 b3 c3 ha => pack_odd n b3 c3 w3 n1 n2 ha
      generalize oddOf n = r at hover hfn hb
      refine agrees_num 5 (fun args w => Tryz.call5 args w) (ivn (Fl.fx 0 r)) ⟨#[79, 68, 68]⟩ [⟨1, n, 1, ⟨#[]⟩⟩] ⟨1, r, 1, ⟨#[]⟩⟩ b c w hx (by simp) (by simp) (one_all ⟨⟨rfl, hd, n1, n2⟩, rfl⟩) (by simp) (by simp) hover ?_ (fun w' => of_int hb.1 hb.2 w') (tame_fx0 (by omega) (by omega)).self
      intro w' b' c' hl
      rw [List.map_cons, List.map_nil, gnum_int n1 n2] at hl
      exact hfn w' b' c' hl
    · rw [show oddSc n d = ⟨6, 0, 0, ⟨#[]⟩⟩ from if_neg h1] at hover
      exact agrees_unsure_want _ _ [⟨1, n, d, ⟨#[]⟩⟩] ⟨6, 0, 0, ⟨#[]⟩⟩ b 0 c w hx (by simp) (by simp) (by simp) (by simp) rfl
        fun w' hw => call_of _ _ _ _ ⟨6, 0, 0, ⟨#[]⟩⟩ w' fun w2 hw2 => hover w2 (hw.tr hw2)
  · refine agrees_no _ _ [⟨6, 0, 0, ⟨#[]⟩⟩] b c w hx (by simp) (by simp) (by simp) (by simp) fun w' hw => ?_
    exact fits_odd ⟨6, 0, 0, ⟨#[]⟩⟩ b 0 c w' (hx.ext hw) (Or.inr rfl)

set_option maxHeartbeats 800000 in
theorem FnOdd.law_of (n : Int) (w : World) (_ : -9223372036854775808 ≤ n ∧ n ≤ 9223372036854775807) :
    Calls Tryz.prog 3 #[.int .i64 n] w fun e w' => e = .returned (.bool true) ∧ Below w.heap.size w w' := by
  go_enter Tryz.func3, Tryz.ntmps3
  go_wp2_with fail
  refine (argPart_ok n _).mono ?_
  rintro e w1 h
  obtain ⟨x, rfl, hx, hb1⟩ := h.sc
  go_wp2_with fail
  refine (agrees_odd _ x _ w1.heap.size 1 (lie_one w1 x) hx).mono ?_
  rintro e w2 ⟨rfl, hb2⟩
  go_wp2
  go_ret
  exact ⟨rfl, (by repeat (first | with_reducible exact Below.refl _ _ | with_reducible assumption | ((with_reducible refine Below.setCell ?_ ?_ _); rotate_left; (simp; try omega)) | (with_reducible refine Ext.tr ?_ (by with_reducible assumption)) | (with_reducible refine Ext.al ?_ _) | (with_reducible refine below_drewN ?_ _) | (with_reducible refine Below.drew ?_)))⟩
end Go.Proofs.YtobidgofiogndaaGreatDoor
