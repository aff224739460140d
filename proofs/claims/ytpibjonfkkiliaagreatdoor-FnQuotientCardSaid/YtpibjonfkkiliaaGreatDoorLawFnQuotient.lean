/-
  FnQuotient: what the call comes to.
-/
import Derived.Test.YtpibjonfkkiliaaGreatDoorPQuot
import Derived.Test.YtpibjonfkkiliaaGreatDoorQuot
import Derived.Test.YtpibjonfkkiliaaGreatDoorPart
namespace Go.Proofs.YtpibjonfkkiliaaGreatDoor
set_option linter.unusedSimpArgs false
set_option linter.unusedVariables false
open Go Go.RowKit
set_option maxRecDepth 100000

theorem numK_int {n : Int} (h1 : -99999999999 ≤ n) (h2 : n ≤ 99999999999) : NumK ⟨1, n, 1, ⟨#[]⟩⟩ := ⟨rfl, Or.inl rfl, h1, h2⟩

theorem gnum_int {n : Int} (h1 : -99999999999 ≤ n) (h2 : n ≤ 99999999999) : gnum ⟨1, n, 1, ⟨#[]⟩⟩ = ivn (Fl.fx 0 n) := by
  unfold gnum
  rw [show (⟨1, n, 1, ⟨#[]⟩⟩ : Sc).n * (16 / (⟨1, n, 1, ⟨#[]⟩⟩ : Sc).d) = 16 * n by show n * (16 / 1) = 16 * n; omega, f16_whole (by omega) (by omega)]

theorem of_int {n : Int} (h1 : -99999999999 ≤ n) (h2 : n ≤ 99999999999) (w : World) : Calls Tryz.prog 18 #[(⟨1, n, 1, ⟨#[]⟩⟩ : Sc).val] w (Gives w (ivn (Fl.fx 0 n)).val) := by
  rw [← f16_whole (n := n) (by omega) (by omega)]
  exact of_num n 1 (16 * n) w (Or.inl rfl) (by omega) h1 h2

theorem two_all {p : Sc → Prop} {x y : Sc} (h1 : p x) (h2 : p y) : ∀ z ∈ [x, y], p z := by
  intro z hz
  rcases List.mem_cons.1 hz with rfl | hz
  · exact h1
  · have e : z = y := by simpa using hz
    subst e; exact h2

theorem pack_quot (n m : Int) (b c : Nat) (w : World) (h0 : m ≠ 0) (hq : QIn n m) (hl : LieI w b 0 [ivn (Fl.fx 0 n), ivn (Fl.fx 0 m)]) :
    Calls Tryz.prog 5 #[.slice (some ⟨b, 0, none⟩) 2 c] w (Gives w (Iv.val (ivn (Fl.fx 0 (n.tdiv m))))) := by
  obtain ⟨n1, n2, m1, m2⟩ := hq
  exact pack_QUOTIENT (Fl.fx 0 n) (Fl.fx 0 m) (fnum (Fl.fx 0 (n.tdiv m))) (ivn (Fl.fx 0 (n.tdiv m))) (tame_fx0 (by omega) (by omega)) (tame_fx0 (by omega) (by omega)) b c w hl (fun w3 fb p B ha => fn_quot n m fb p B w3 h0 n1 n2 m1 m2 ha) (fun w3 => doorArg_num _ w3)

theorem pack_quot_zero (n : Int) (b c : Nat) (w : World) (n1 : -1000000000 ≤ n) (n2 : n ≤ 1000000000) (hl : LieI w b 0 [ivn (Fl.fx 0 n), ivn (Fl.fx 0 0)]) :
    Calls Tryz.prog 5 #[.slice (some ⟨b, 0, none⟩) 2 c] w (Gives w (Iv.val ⟨4, 0, ⟨#[35, 68, 73, 86, 47, 48, 33]⟩⟩)) :=
  pack_QUOTIENT (Fl.fx 0 n) (Fl.fx 0 0) (ferr ⟨#[35, 68, 73, 86, 47, 48, 33]⟩ ⟨#[35, 68, 73, 86, 47, 48, 33]⟩) ⟨4, 0, ⟨#[35, 68, 73, 86, 47, 48, 33]⟩⟩ (tame_fx0 (by omega) (by omega)) (tame_fx0 (by omega) (by omega)) b c w hl (fun w3 fb p B ha => fn_quot_zero n fb p B w3 n1 n2 ha) (fun w3 => doorArg_err _ _ w3)

set_option maxHeartbeats 800000 in
theorem agrees_quot (x y : Sc) (w : World) (b c : Nat) (hx : Lie w b 0 [x, y]) (h1 : Wh x) (h2 : Wh y) :
    Calls Tryz.prog 4 #[.func (.func 5) #[] #[], .string ⟨#[81, 85, 79, 84, 73, 69, 78, 84]⟩, .slice (some ⟨b, 0, none⟩) 2 c] w (Gives w (.bool true)) := by
  by_cases hu : x.k = 1 ∧ y.k = 1
  · obtain ⟨k1, k2⟩ := hu
    rcases h1 with ⟨n, rfl, n1, n2⟩ | rfl
    · rcases h2 with ⟨m, rfl, m1, m2⟩ | rfl
      · clear k1 k2
        have hall := two_all (p := fun z => NumK z ∧ z.t = ⟨#[]⟩) (x := ⟨1, n, 1, ⟨#[]⟩⟩) (y := ⟨1, m, 1, ⟨#[]⟩⟩) ⟨numK_int n1 n2, rfl⟩ ⟨numK_int m1 m2, rfl⟩
        have hover := fun w' (hw : Ext w w') => callOver_quot n m b 0 c w' (hx.ext hw) ⟨n1, n2⟩ ⟨m1, m2⟩
        have hin : ∀ w' b', LieI w' b' 0 ([⟨1, n, 1, ⟨#[]⟩⟩, ⟨1, m, 1, ⟨#[]⟩⟩].map gnum) → LieI w' b' 0 [ivn (Fl.fx 0 n), ivn (Fl.fx 0 m)] := by
          intro w' b' h
          rw [List.map_cons, List.map_cons, List.map_nil, gnum_int n1 n2, gnum_int m1 m2] at h
          exact h
        by_cases hq : QIn n m
        · by_cases h0 : m = 0
          · rw [show quoSc n m = ⟨4, 0, 0, ⟨#[35, 68, 73, 86, 47, 48, 33]⟩⟩ by unfold quoSc; rw [if_pos hq, if_pos h0]] at hover
            refine agrees_num 5 (fun args w => Tryz.call5 args w) ⟨4, 0, ⟨#[35, 68, 73, 86, 47, 48, 33]⟩⟩ ⟨#[81, 85, 79, 84, 73, 69, 78, 84]⟩ [⟨1, n, 1, ⟨#[]⟩⟩, ⟨1, m, 1, ⟨#[]⟩⟩] ⟨4, 0, 0, ⟨#[35, 68, 73, 86, 47, 48, 33]⟩⟩ b c w hx (by simp) (by simp) hall (by simp) (by simp) hover ?_ (fun w' => of_err _ w') (by decide)
            intro w' b' c' hl
            have h := hin w' b' hl
            rw [h0] at h
            exact pack_quot_zero n b' c' w' hq.1 hq.2.1 h
          · rw [show quoSc n m = ⟨1, n.tdiv m, 1, ⟨#[]⟩⟩ by unfold quoSc; rw [if_pos hq, if_neg h0]] at hover
            obtain ⟨t1, t2⟩ := tdiv_bound (m := m) hq.1 hq.2.1
            have hfn := fun w3 b3 c3 ha => pack_quot n m b3 c3 w3 h0 hq ha
            generalize n.tdiv m = r at hover hfn t1 t2
            refine agrees_num 5 (fun args w => Tryz.call5 args w) (ivn (Fl.fx 0 r)) ⟨#[81, 85, 79, 84, 73, 69, 78, 84]⟩ [⟨1, n, 1, ⟨#[]⟩⟩, ⟨1, m, 1, ⟨#[]⟩⟩] ⟨1, r, 1, ⟨#[]⟩⟩ b c w hx (by simp) (by simp) hall (by simp) (by simp) hover ?_ (fun w' => of_int (by omega) (by omega) w') (tame_fx0 (by omega) (by omega)).self
            intro w' b' c' hl
            exact hfn w' b' c' (hin w' b' hl)
        · rw [show quoSc n m = ⟨6, 0, 0, ⟨#[]⟩⟩ from if_neg hq] at hover
          exact agrees_unsure_want _ _ [⟨1, n, 1, ⟨#[]⟩⟩, ⟨1, m, 1, ⟨#[]⟩⟩] ⟨6, 0, 0, ⟨#[]⟩⟩ b 0 c w hx (by simp) (by simp) (by simp) (by simp) rfl
            fun w' hw => call_of _ _ _ _ ⟨6, 0, 0, ⟨#[]⟩⟩ w' fun w2 hw2 => hover w2 (hw.tr hw2)
      · exact absurd k2 (by decide)
    · exact absurd k1 (by decide)
  · refine agrees_no _ _ [x, y] b c w hx (by simp) (by simp) (two_all (p := fun z => z.k ≠ 5) (by rcases h1.kind with h | h <;> rw [h] <;> decide) (by rcases h2.kind with h | h <;> rw [h] <;> decide)) ?_ fun w' hw => ?_
    · rcases h1.kind with h | h
      · rcases h2.kind with h' | h'
        · exact absurd ⟨h, h'⟩ hu
        · simp [h']
      · simp [h]
    · have hf := fits_quot x y b 0 c w' (hx.ext hw) h1.kind h2.kind
      rwa [show (numericOf x && numericOf y) = false by
        rcases h1.kind with h | h
        · rcases h2.kind with h' | h'
          · exact absurd ⟨h, h'⟩ hu
          · simp [numericOf, h']
        · simp [numericOf, h]] at hf

theorem WholeOk.wh {n : Int} {x : Sc} (h : WholeOk n x) : Wh x := by
  rcases h with ⟨rfl, h⟩ | rfl
  · exact Or.inl ⟨n, rfl, h⟩
  · exact Or.inr rfl

set_option maxHeartbeats 800000 in
theorem FnQuotient.law_of (n k : Int) (w : World) (_ : -9223372036854775808 ≤ n ∧ n ≤ 9223372036854775807) (_ : -9223372036854775808 ≤ k ∧ k ≤ 9223372036854775807) :
    Calls Tryz.prog 3 #[.int .i64 n, .int .i64 k] w fun e w' => e = .returned (.bool true) ∧ Below w.heap.size w w' := by
  go_enter Tryz.func3, Tryz.ntmps3
  go_wp2_with fail
  refine (argWhole_ok n _).mono ?_
  rintro e w1 ⟨x, rfl, hx, hb1⟩
  go_wp2_with fail
  refine (argWhole_ok k _).mono ?_
  rintro e w2 ⟨y, rfl, hy, hb2⟩
  go_wp2_with fail
  refine (agrees_quot x y _ w2.heap.size 2 (lie_two w2 x y) hx.wh hy.wh).mono ?_
  rintro e w3 ⟨rfl, hb3⟩
  go_wp2
  go_ret
  exact ⟨rfl, (by repeat (first | with_reducible exact Below.refl _ _ | with_reducible assumption | ((with_reducible refine Below.setCell ?_ ?_ _); rotate_left; (simp; try omega)) | (with_reducible refine Ext.tr ?_ (by with_reducible assumption)) | (with_reducible refine Ext.al ?_ _) | (with_reducible refine below_drewN ?_ _) | (with_reducible refine Below.drew ?_)))⟩
end Go.Proofs.YtpibjonfkkiliaaGreatDoor
