/-
  FnBitrshift: what the call comes to.
-/
import Derived.Test.YtbflllnbejmnbaaGreatDoorPBitsh
import Derived.Test.YtbflllnbejmnbaaGreatDoorBitsh
import Derived.Test.YtbflllnbejmnbaaGreatDoorPart
namespace Go.Proofs.YtbflllnbejmnbaaGreatDoor
set_option linter.unusedSimpArgs false
set_option linter.unusedVariables false
open Go Go.RowKit
set_option maxRecDepth 100000

theorem numK_int {n : Int} (h1 : -99999999999 ≤ n) (h2 : n ≤ 99999999999) : NumK ⟨1, n, 1, ⟨#[]⟩⟩ := ⟨rfl, Or.inl rfl, h1, h2⟩

theorem gnum_int {n : Int} (h1 : -99999999999 ≤ n) (h2 : n ≤ 99999999999) : gnum ⟨1, n, 1, ⟨#[]⟩⟩ = ivn (Fl.fx 0 n) := by
  unfold gnum
  rw [show (⟨1, n, 1, ⟨#[]⟩⟩ : Sc).n * (16 / (⟨1, n, 1, ⟨#[]⟩⟩ : Sc).d) = 16 * n by show n * (16 / 1) = 16 * n; omega, f16_whole (by omega) (by omega)]

theorem of_int {n : Int} (h1 : -99999999999 ≤ n) (h2 : n ≤ 99999999999) (w : World) : Calls Tryz.prog 18 #[(⟨1, n, 1, ⟨#[]⟩⟩ : Sc).val] w (Gives w (ivn (Fl.fx 0 n)).val) := by
  rw [← f16_whole (n := n) (by omega) (by omega)]
  exact of_num n 1 (16 * n) w (Or.inl rfl) (by omega) h1 h2

theorem two_all {p : Sc → Prop} {x y : Sc} (h1 : p x) (h2 : p y) : ∀ z ∈ [x, y], p z := by
  intro z hz
  rcases List.mem_cons.1 hz with rfl | hz
  · exact h1
  · have e : z = y := by simpa using hz
    subst e; exact h2

theorem pack_sh_neg (n m : Int) (b c : Nat) (w : World) (n1 : -99999999999 ≤ n) (n2 : n ≤ 99999999999) (m1 : -99999999999 ≤ m) (m2 : m ≤ 99999999999) (hneg : n < 0 ∨ m < 0) (hl : LieI w b 0 [ivn (Fl.fx 0 n), ivn (Fl.fx 0 m)]) :
    Calls Tryz.prog 5 #[.slice (some ⟨b, 0, none⟩) 2 c] w (Gives w (Iv.val ⟨4, 0, ⟨#[35, 78, 85, 77, 33]⟩⟩)) :=
  pack_BITRSHIFT (Fl.fx 0 n) (Fl.fx 0 m) (ferr ⟨#[35, 78, 85, 77, 33]⟩ ⟨#[35, 78, 85, 77, 33]⟩) ⟨4, 0, ⟨#[35, 78, 85, 77, 33]⟩⟩ (tame_fx0 (by omega) (by omega)) (tame_fx0 (by omega) (by omega)) b c w hl (fun w3 fb p B ha => fn_bitsh_neg n m fb p B w3 n1 n2 m1 m2 hneg ha) (fun w3 => doorArg_err _ _ w3)

theorem pack_sh (n m : Int) (b c : Nat) (w : World) (n1 : 0 ≤ n) (n2 : n ≤ 99999999999) (m1 : 0 ≤ m) (m2 : m ≤ 20) (r1 : -99999999999 ≤ n / 2 ^ m.toNat) (r2 : n / 2 ^ m.toNat ≤ 99999999999) (hl : LieI w b 0 [ivn (Fl.fx 0 n), ivn (Fl.fx 0 m)]) :
    Calls Tryz.prog 5 #[.slice (some ⟨b, 0, none⟩) 2 c] w (Gives w (Iv.val (ivn (Fl.fx 0 (n / 2 ^ m.toNat))))) :=
  pack_BITRSHIFT (Fl.fx 0 n) (Fl.fx 0 m) (fnum (Fl.fx 0 (n / 2 ^ m.toNat))) (ivn (Fl.fx 0 (n / 2 ^ m.toNat))) (tame_fx0 (by omega) (by omega)) (tame_fx0 (by omega) (by omega)) b c w hl (fun w3 fb p B ha => fn_bitsh n m fb p B w3 n1 n2 m1 m2 r1 r2 ha) (fun w3 => doorArg_num _ w3)

theorem sh_bound {n m : Int} (h : 0 ≤ n) : 0 ≤ n / 2 ^ m.toNat ∧ n / 2 ^ m.toNat ≤ n := by
  have hp : (0 : Int) < 2 ^ m.toNat := Int.pow_pos (by omega)
  exact ⟨Int.ediv_nonneg h (by omega), Int.ediv_le_self _ h⟩

set_option maxHeartbeats 800000 in
theorem agrees_bitsh (x y : Sc) (w : World) (b c : Nat) (hx : Lie w b 0 [x, y]) (h1 : Wh x) (h2 : Wh y) :
    Calls Tryz.prog 4 #[.func (.func 5) #[] #[], .string ⟨#[66, 73, 84, 82, 83, 72, 73, 70, 84]⟩, .slice (some ⟨b, 0, none⟩) 2 c] w (Gives w (.bool true)) := by
  by_cases hu : x.k = 1 ∧ y.k = 1
  · obtain ⟨k1, k2⟩ := hu
    rcases h1 with ⟨n, rfl, n1, n2⟩ | rfl
    · rcases h2 with ⟨m, rfl, m1, m2⟩ | rfl
      · clear k1 k2
        by_cases hok : n ≤ 1048576 ∧ 0 ≤ m ∧ m ≤ 20
        · obtain ⟨ho1, ho2, ho3⟩ := hok
          have hall := two_all (p := fun z => NumK z ∧ z.t = ⟨#[]⟩) (x := ⟨1, n, 1, ⟨#[]⟩⟩) (y := ⟨1, m, 1, ⟨#[]⟩⟩) ⟨numK_int n1 n2, rfl⟩ ⟨numK_int m1 m2, rfl⟩
          have hover := fun w' (hw : Ext w w') => callOver_shift n m b 0 c w' (hx.ext hw) ⟨n1, n2⟩ ⟨m1, m2⟩ ho1 ho2 ho3
          have hin : ∀ w' b', LieI w' b' 0 ([⟨1, n, 1, ⟨#[]⟩⟩, ⟨1, m, 1, ⟨#[]⟩⟩].map gnum) → LieI w' b' 0 [ivn (Fl.fx 0 n), ivn (Fl.fx 0 m)] := by
            intro w' b' h
            rw [List.map_cons, List.map_cons, List.map_nil, gnum_int n1 n2, gnum_int m1 m2] at h
            exact h
          by_cases hneg : n < 0
          · rw [show shSc n m = ⟨4, 0, 0, ⟨#[35, 78, 85, 77, 33]⟩⟩ from if_pos hneg] at hover
            refine agrees_num 5 (fun args w => Tryz.call5 args w) ⟨4, 0, ⟨#[35, 78, 85, 77, 33]⟩⟩ ⟨#[66, 73, 84, 82, 83, 72, 73, 70, 84]⟩ [⟨1, n, 1, ⟨#[]⟩⟩, ⟨1, m, 1, ⟨#[]⟩⟩] ⟨4, 0, 0, ⟨#[35, 78, 85, 77, 33]⟩⟩ b c w hx (by simp) (by simp) hall (by simp) (by simp) hover ?_ (fun w' => of_err _ w') (by decide)
            intro w' b' c' hl
            exact pack_sh_neg n m b' c' w' n1 n2 m1 m2 (Or.inl hneg) (hin w' b' hl)
          · have hr := sh_bound (n := n) (m := m) (by omega)
            rw [show shSc n m = intSc (n / 2 ^ m.toNat) from if_neg hneg] at hover
            have hr1 : -99999999999 ≤ n / 2 ^ m.toNat := by omega
            have hr2 : n / 2 ^ m.toNat ≤ 99999999999 := by omega
            rw [show intSc (n / 2 ^ m.toNat) = ⟨1, n / 2 ^ m.toNat, 1, ⟨#[]⟩⟩ from if_pos ⟨hr1, hr2⟩] at hover
            have hfn := fun w3 b3 c3 ha => pack_sh n m b3 c3 w3 (by omega) n2 ho2 ho3 hr1 hr2 ha
            generalize n / 2 ^ m.toNat = r at hover hr1 hr2 hfn
            refine agrees_num 5 (fun args w => Tryz.call5 args w) (ivn (Fl.fx 0 r)) ⟨#[66, 73, 84, 82, 83, 72, 73, 70, 84]⟩ [⟨1, n, 1, ⟨#[]⟩⟩, ⟨1, m, 1, ⟨#[]⟩⟩] ⟨1, r, 1, ⟨#[]⟩⟩ b c w hx (by simp) (by simp) hall (by simp) (by simp) hover ?_ (fun w' => of_int hr1 hr2 w') (tame_fx0 (by omega) (by omega)).self
            intro w' b' c' hl
            exact hfn w' b' c' (hin w' b' hl)
        · have hf : ∀ w', Ext w w' → Calls Tryz.prog 24 #[.string ⟨#[66, 73, 84, 82, 83, 72, 73, 70, 84]⟩, .slice (some ⟨b, 0, none⟩) 2 c] w' (Gives w' (.bool false)) := by
            intro w' hw
            have h := fits_shift _ _ b 0 c w' (hx.ext hw) (Or.inl ⟨n, rfl, n1, n2⟩) (Or.inl ⟨m, rfl, m1, m2⟩)
            rwa [show shOk ⟨1, n, 1, ⟨#[]⟩⟩ ⟨1, m, 1, ⟨#[]⟩⟩ = false by
              simp only [shOk, numericOf]
              by_cases q1 : n ≤ 1048576
              · by_cases q2 : 0 ≤ m
                · have q3 : ¬ m ≤ 20 := fun h => hok ⟨q1, q2, h⟩
                  simp [q3]
                · simp [q2]
              · simp [q1]] at h
          exact agrees_unsure_want _ _ [⟨1, n, 1, ⟨#[]⟩⟩, ⟨1, m, 1, ⟨#[]⟩⟩] ⟨6, 0, 0, ⟨#[]⟩⟩ b 0 c w hx (by simp) (by simp) (by simp) (by simp) rfl
            fun w' hw => call_of _ _ _ _ ⟨6, 0, 0, ⟨#[]⟩⟩ w' fun w2 hw2 => callOver_no _ _ _ _ w2 fun w3 hw3 => hf w3 ((hw.tr hw2).tr hw3)
      · exact absurd k2 (by decide)
    · exact absurd k1 (by decide)
  · refine agrees_no _ _ [x, y] b c w hx (by simp) (by simp) (two_all (p := fun z => z.k ≠ 5) (by rcases h1.kind with h | h <;> rw [h] <;> decide) (by rcases h2.kind with h | h <;> rw [h] <;> decide)) ?_ fun w' hw => ?_
    · rcases h1.kind with h | h
      · rcases h2.kind with h' | h'
        · exact absurd ⟨h, h'⟩ hu
        · simp [h']
      · simp [h]
    · have hf := fits_shift x y b 0 c w' (hx.ext hw) h1 h2
      rwa [show shOk x y = false by
        rcases h1.kind with h | h
        · rcases h2.kind with h' | h'
          · exact absurd ⟨h, h'⟩ hu
          · simp [shOk, numericOf, h']
        · simp [shOk, numericOf, h]] at hf

theorem WholeOk.wh {n : Int} {x : Sc} (h : WholeOk n x) : Wh x := by
  rcases h with ⟨rfl, h⟩ | rfl
  · exact Or.inl ⟨n, rfl, h⟩
  · exact Or.inr rfl

set_option maxHeartbeats 800000 in
theorem FnBitrshift.law_of (n k : Int) (w : World) (_ : -9223372036854775808 ≤ n ∧ n ≤ 9223372036854775807) (_ : -9223372036854775808 ≤ k ∧ k ≤ 9223372036854775807) :
    Calls Tryz.prog 3 #[.int .i64 n, .int .i64 k] w fun e w' => e = .returned (.bool true) ∧ Below w.heap.size w w' := by
  go_enter Tryz.func3, Tryz.ntmps3
  go_wp2_with fail
  refine (argWhole_ok n _).mono ?_
  rintro e w1 ⟨x, rfl, hx, hb1⟩
  go_wp2_with fail
  refine (argWhole_ok k _).mono ?_
  rintro e w2 ⟨y, rfl, hy, hb2⟩
  go_wp2_with fail
  refine (agrees_bitsh x y _ w2.heap.size 2 (lie_two w2 x y) hx.wh hy.wh).mono ?_
  rintro e w3 ⟨rfl, hb3⟩
  go_wp2
  go_ret
  exact ⟨rfl, (by repeat (first | with_reducible exact Below.refl _ _ | with_reducible assumption | ((with_reducible refine Below.setCell ?_ ?_ _); rotate_left; (simp; try omega)) | (with_reducible refine Ext.tr ?_ (by with_reducible assumption)) | (with_reducible refine Ext.al ?_ _) | (with_reducible refine below_drewN ?_ _) | (with_reducible refine Below.drew ?_)))⟩
end Go.Proofs.YtbflllnbejmnbaaGreatDoor
