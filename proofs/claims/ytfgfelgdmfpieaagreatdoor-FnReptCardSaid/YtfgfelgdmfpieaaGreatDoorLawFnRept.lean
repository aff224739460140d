/-
  FnRept: what the call comes to.
-/
import Derived.Test.YtfgfelgdmfpieaaGreatDoorPRept
import Derived.Test.YtfgfelgdmfpieaaGreatDoorRept
import Derived.Test.YtfgfelgdmfpieaaGreatDoorPart
namespace Go.Proofs.YtfgfelgdmfpieaaGreatDoor
set_option linter.unusedSimpArgs false
set_option linter.unusedVariables false
open Go Go.RowKit
set_option maxRecDepth 100000

abbrev numSc (n : Int) : Sc := ⟨1, n, 1, ⟨#[]⟩⟩

theorem numK_int {n : Int} (h1 : -99999999999 ≤ n) (h2 : n ≤ 99999999999) : NumK (numSc n) := ⟨rfl, Or.inl rfl, h1, h2⟩

theorem gnum_int {n : Int} (h1 : -99999999999 ≤ n) (h2 : n ≤ 99999999999) : gnum (numSc n) = ivn (Fl.fx 0 n) := by
  unfold gnum
  rw [show (numSc n).n * (16 / (numSc n).d) = 16 * n by show n * (16 / 1) = 16 * n; omega, f16_whole (by omega) (by omega)]

theorem of_int {n : Int} (h1 : -99999999999 ≤ n) (h2 : n ≤ 99999999999) (w : World) : Calls Tryz.prog 20 #[(numSc n).val] w (Gives w (ivn (Fl.fx 0 n)).val) := by
  rw [← f16_whole (n := n) (by omega) (by omega)]
  exact of_num n 1 (16 * n) w (Or.inl rfl) (by omega) h1 h2

/-- A text or a number as the thin package has it. -/
def gtn (x : Sc) : Iv := if x.k = 2 then ivt x.t else gnum x
def inTn (x : Iv) : Array Value := if x.k = 2 then fstrC x.t else fnumC x.f

theorem pack_rept (s : ByteArray) (n : Int) (y : Value) (z : Iv) (n1 : -99999999999 ≤ n) (n2 : n ≤ 99999999999) (b c : Nat) (w : World) (hl : LieI w b 0 [ivt s, ivn (Fl.fx 0 n)])
    (hfn : ∀ w' fb p B, ArgsAt w' p B [fstrC s, fnumC (Fl.fx 0 n)] → Calls Tryz.prog 23 #[ptr fb, ptr p] w' (Gives w' y))
    (hout : ∀ w', Calls Tryz.prog 21 #[y] w' (Gives w' z.val)) :
    Calls Tryz.prog 6 #[.slice (some ⟨b, 0, none⟩) 2 c] w (Gives w z.val) := by
  refine impl_REPT [ivt s, ivn (Fl.fx 0 n)] z b c w (by simp) (by simp) hl fun w2 b2 c2 hl2 => ?_
  refine door_REPT inTn [ivt s, ivn (Fl.fx 0 n)] y z b2 0 c2 w2 (by simp) hl2 (fun u w3 hu => ?_) (fun w' fb p B ha => hfn w' fb p B ha) hout
  rcases List.mem_cons.1 hu with rfl | hu
  · exact innerArg_text s w3
  · have e : u = ivn (Fl.fx 0 n) := by simpa using hu
    subst e; exact innerArg_num _ w3 (tame_fx0 (by omega) (by omega))

theorem txt_num_all {p : Sc → Prop} {x y : Sc} (h1 : p x) (h2 : p y) : ∀ z ∈ [x, y], p z := by
  intro z hz
  rcases List.mem_cons.1 hz with rfl | hz
  · exact h1
  · have e : z = y := by simpa using hz
    subst e; exact h2

theorem agrees_rept_of (s : ByteArray) (n : Int) (want : Sc) (r : Iv) (y : Value) (w : World) (b : Nat) (n1 : -99999999999 ≤ n) (n2 : n ≤ 99999999999) (hx : Lie w b 0 [txtSc s, numSc n]) (hw : want.k ≠ 6) (hw5 : want.k ≠ 5)
    (hover : ∀ w', Ext w w' → Calls Tryz.prog 18 #[.string ⟨#[82, 69, 80, 84]⟩, .slice (some ⟨b, 0, none⟩) 2 2, .slice (some ⟨b, 0, none⟩) 2 2] w' (Gives w' want.val))
    (hfn : ∀ w' fb p B, ArgsAt w' p B [fstrC s, fnumC (Fl.fx 0 n)] → Calls Tryz.prog 23 #[ptr fb, ptr p] w' (Gives w' y))
    (hout : ∀ w', Calls Tryz.prog 21 #[y] w' (Gives w' r.val)) (hof : ∀ w', Calls Tryz.prog 20 #[want.val] w' (Gives w' r.val)) (hrt : FloatKind.f64.format.order r.f r.f = some Ordering.eq) :
    Calls Tryz.prog 5 #[.func (.func 6) #[] #[], .string ⟨#[82, 69, 80, 84]⟩, .slice (some ⟨b, 0, none⟩) 2 2] w (Gives w (.bool true)) := by
  refine agrees_ok 6 (fun args w => Tryz.call6 args w) gtn r ⟨#[82, 69, 80, 84]⟩ [txtSc s, numSc n] want b 0 2 w hx
    (by simp) (by simp) (txt_num_all (p := fun z => z.k ≠ 5) (by show (2 : Int) ≠ 5; decide) (by show (1 : Int) ≠ 5; decide)) (by simp) hw hw5 ?_ ?_ ?_ hof hrt
  · exact fun w' hw' => call_of _ _ _ _ want w' fun w2 hw2 => hover w2 (hw'.tr hw2)
  · intro x w' hm
    rcases List.mem_cons.1 hm with rfl | hm
    · exact of_text s w'
    · have e : x = numSc n := by simpa using hm
      subst e
      rw [show gtn (numSc n) = gnum (numSc n) from rfl, gnum_int n1 n2]
      exact of_int n1 n2 w'
  · intro w' b' c' hl
    rw [List.map_cons, List.map_cons, List.map_nil, show gtn (txtSc s) = ivt s from rfl, show gtn (numSc n) = gnum (numSc n) from rfl, gnum_int n1 n2] at hl
    exact pack_rept s n y r n1 n2 b' c' w' hl hfn hout

theorem agrees_rept (s : ByteArray) (y : Sc) (w : World) (b : Nat) (hs : s.size ≤ 1000) (hy : Wh y) (hx : Lie w b 0 [txtSc s, y]) :
    Calls Tryz.prog 5 #[.func (.func 6) #[] #[], .string ⟨#[82, 69, 80, 84]⟩, .slice (some ⟨b, 0, none⟩) 2 2] w (Gives w (.bool true)) := by
  have hfit := fun w' (hw : Ext w w') => fits_rept s y b 0 2 w' (by omega) hy (hx.ext hw)
  rcases hy with ⟨n, rfl, n1, n2⟩ | rfl
  · by_cases hf : asciiT s = true ∧ n ≤ 50
    · obtain ⟨ha, n50⟩ := hf
      have hover := fun w' (hw : Ext w w') => callOver_rept s n b w' hs ha n1 n50 (hx.ext hw)
      by_cases hn : n < 0
      · rw [show repSc s n = ⟨4, 0, 0, valueT⟩ from if_pos hn] at hover
        exact agrees_rept_of s n ⟨4, 0, 0, valueT⟩ ⟨4, 0, valueT⟩ _ w b n1 n2 hx (by simp) (by simp) hover (fun w' fb p B ha => rept_neg s n fb p B w' n1 hn ha) (fun w' => doorArg_err _ _ w') (fun w' => of_err _ w') (by decide)
      · by_cases hbig : 20000 < (s.size : Int) * n
        · rw [show repSc s n = ⟨6, 0, 0, ⟨#[]⟩⟩ by unfold repSc; rw [if_neg hn, if_pos hbig]] at hover
          exact agrees_unsure_want _ _ [txtSc s, numSc n] ⟨6, 0, 0, ⟨#[]⟩⟩ b 0 2 w hx (by simp) (by simp) (by simp) (by simp) rfl
            fun w' hw => call_of _ _ _ _ ⟨6, 0, 0, ⟨#[]⟩⟩ w' fun w2 hw2 => hover w2 (hw.tr hw2)
        · rw [show repSc s n = txtSc (rep s n.toNat) by unfold repSc; rw [if_neg hn, if_neg hbig]] at hover
          by_cases h0 : n = 0
          · subst h0
            exact agrees_rept_of s 0 (txtSc ⟨#[]⟩) (ivt ⟨#[]⟩) (fstr ⟨#[]⟩) w b n1 n2 hx (by simp) (by simp) hover (fun w' fb p B ha => rept_zero s fb p B w' (by rw [show Fl.fx 0 0 = 0 by decide] at ha; exact ha)) (fun w' => doorArg_text _ w') (fun w' => of_text _ w') (by decide)
          · exact agrees_rept_of s n (txtSc (rep s n.toNat)) (ivt (rep s n.toNat)) (fstr (rep s n.toNat)) w b n1 n2 hx (by simp) (by simp) hover (fun w' fb p B ha => rept_pos s n fb p B w' hs (by omega) n50 ha) (fun w' => doorArg_text _ w') (fun w' => of_text _ w') (show FloatKind.f64.format.order 0 0 = some Ordering.eq by decide)
    · refine agrees_unsure_want _ _ [txtSc s, numSc n] ⟨6, 0, 0, ⟨#[]⟩⟩ b 0 2 w hx (by simp) (by simp) (by simp) (by simp) rfl
        fun w' hw => call_of _ _ _ _ ⟨6, 0, 0, ⟨#[]⟩⟩ w' fun w2 hw2 => callOver_no _ _ _ _ w2 fun w3 hw3 => ?_
      have h := hfit w3 ((hw.tr hw2).tr hw3)
      rwa [show (asciiT s && (numericOf ⟨1, n, 1, ⟨#[]⟩⟩ && (decide (-99999999999 ≤ (⟨1, n, 1, ⟨#[]⟩⟩ : Sc).n) && decide ((⟨1, n, 1, ⟨#[]⟩⟩ : Sc).n ≤ 50)))) = false by
        by_cases ha : asciiT s = true
        · have : ¬ n ≤ 50 := fun h => hf ⟨ha, h⟩
          simp [numericOf, this]
        · simp [ha]] at h
  · refine agrees_no _ _ [txtSc s, ⟨6, 0, 0, ⟨#[]⟩⟩] b 2 w hx (by simp) (by simp) (txt_num_all (p := fun z => z.k ≠ 5) (by show (2 : Int) ≠ 5; decide) (by decide)) (by simp) fun w' hw => ?_
    have h := hfit w' hw
    rwa [show (asciiT s && (numericOf ⟨6, 0, 0, ⟨#[]⟩⟩ && (decide (-99999999999 ≤ (⟨6, 0, 0, ⟨#[]⟩⟩ : Sc).n) && decide ((⟨6, 0, 0, ⟨#[]⟩⟩ : Sc).n ≤ 50)))) = false by simp [numericOf]] at h

theorem WholeOk.wh {n : Int} {x : Sc} (h : WholeOk n x) : Wh x := by
  rcases h with ⟨rfl, h⟩ | rfl
  · exact Or.inl ⟨n, rfl, h⟩
  · exact Or.inr rfl

set_option maxHeartbeats 800000 in
theorem FnRept.law_of (s : ByteArray) (n : Int) (w : World) (_ : s.size ≤ maxLen) (_ : -9223372036854775808 ≤ n ∧ n ≤ 9223372036854775807) :
    Calls Tryz.prog 3 #[.string s, .int .i64 n] w fun e w' => e = .returned (.bool true) ∧ Below w.heap.size w w' := by
  by_cases hz : s.size ≤ 1000
  · have HG := Lib.hid (fun w' y b (h : Lie w' b 0 [txtSc s, y]) (hy : Wh y) => agrees_rept s y w' b hz hy h)
    have hsh := fun b c w' h => short_one s b c w' h
    rw [decide_eq_true hz] at hsh
    have HS := Lib.hid hsh; clear hsh
    have hbig : ¬ (2147483647 : Int) < (s.size : Int) := by omega
    go_enter Tryz.func3, Tryz.ntmps3
    go_wp2_with fail
    refine (HS.out w.heap.size 1 _ (World.cell?_alloc_at _ _ _ _ rfl)).mono ?_
    rintro e w1 ⟨rfl, hb1⟩
    (go_wp2_with fail; refine (str_any s _).mono ?_; rintro e w2 ⟨rfl, hb2⟩; obtain ⟨hc2, hf2, hz2⟩ := ext_facts hb2; (try simp at hz2); clear hc2 hf2)
    go_wp2_with fail
    refine (argWhole_ok n _).mono ?_
    rintro e w3 ⟨y, rfl, hy, hb3⟩
    go_wp2_with fail
    refine (HG.out _ y w3.heap.size (lie_two w3 (txtSc s) y) hy.wh).mono ?_
    rintro e w4 ⟨rfl, hb4⟩
    go_wp2
    go_ret
    exact ⟨rfl, (by repeat (first | with_reducible exact Below.refl _ _ | with_reducible assumption | ((with_reducible refine Below.setCell ?_ ?_ _); rotate_left; (simp; try omega)) | (with_reducible refine Ext.tr ?_ (by with_reducible assumption)) | (with_reducible refine Ext.al ?_ _) | (with_reducible refine below_drewN ?_ _) | (with_reducible refine Below.drew ?_)))⟩
  · by_cases hz2 : (2147483647 : Int) < (s.size : Int)
    · go_enter Tryz.func3, Tryz.ntmps3
      go_wp2
      go_ret
      exact ⟨rfl, (by repeat (first | with_reducible exact Below.refl _ _ | with_reducible assumption | ((with_reducible refine Below.setCell ?_ ?_ _); rotate_left; (simp; try omega)) | (with_reducible refine Ext.tr ?_ (by with_reducible assumption)) | (with_reducible refine Ext.al ?_ _) | (with_reducible refine below_drewN ?_ _) | (with_reducible refine Below.drew ?_)))⟩
    · have hsh := fun b c w' h => short_one s b c w' h
      rw [decide_eq_false hz] at hsh
      have HS := Lib.hid hsh; clear hsh
      go_enter Tryz.func3, Tryz.ntmps3
      go_wp2_with fail
      refine (HS.out w.heap.size 1 _ (World.cell?_alloc_at _ _ _ _ rfl)).mono ?_
      rintro e w1 ⟨rfl, hb1⟩
      go_wp2
      go_ret
      exact ⟨rfl, (by repeat (first | with_reducible exact Below.refl _ _ | with_reducible assumption | ((with_reducible refine Below.setCell ?_ ?_ _); rotate_left; (simp; try omega)) | (with_reducible refine Ext.tr ?_ (by with_reducible assumption)) | (with_reducible refine Ext.al ?_ _) | (with_reducible refine below_drewN ?_ _) | (with_reducible refine Below.drew ?_)))⟩
end Go.Proofs.YtfgfelgdmfpieaaGreatDoor
