/-
  FnDelta: what the call comes to.
-/
import Derived.Test.YtkhbljlnpgpaaabGreatDoorPDelta
import Derived.Test.YtkhbljlnpgpaaabGreatDoorDelta
import Derived.Test.YtkhbljlnpgpaaabGreatDoorPart
namespace Go.Proofs.YtkhbljlnpgpaaabGreatDoor
set_option linter.unusedSimpArgs false
set_option linter.unusedVariables false
open Go Go.RowKit
set_option maxRecDepth 100000

theorem dlt_den {n1 d1 n2 d2 : Int} (h1 : Den d1) (h2 : Den d2) : dlt (n1 * d2) (n2 * d1) = if n1 * (16 / d1) = n2 * (16 / d2) then 1 else 0 := by
  unfold dlt
  rcases h1 with rfl | rfl | rfl | rfl | rfl <;> rcases h2 with rfl | rfl | rfl | rfl | rfl <;> (simp only [Int.reduceDiv] <;> split <;> split <;> omega)

theorem dlt_bd (a b : Int) : 0 ≤ dlt a b ∧ dlt a b ≤ 1 := by
  unfold dlt; split <;> omega

theorem mul_den {n d : Int} (h : Den d) (h1 : -99999999999 ≤ n) (h2 : n ≤ 99999999999) : -9000000000000 ≤ n * d ∧ n * d ≤ 9000000000000 := by
  rcases h with rfl | rfl | rfl | rfl | rfl <;> omega

theorem agrees_delta (x y : Sc) (Z1 Z2 : Int) (w : World) (b c : Nat) (hx : Lie w b 0 [x, y]) (h1 : ArgOk Z1 x) (h2 : ArgOk Z2 y) :
    Calls Tryz.prog 4 #[.func (.func 5) #[] #[], .string ⟨#[68, 69, 76, 84, 65]⟩, .slice (some ⟨b, 0, none⟩) 2 c] w (Gives w (.bool true)) := by
  by_cases hu : x.k = 1 ∧ y.k = 1
  · obtain ⟨k1, k2⟩ := hu
    rcases h1 with ⟨hn1, ht1, hz1⟩ | rfl
    · rcases h2 with ⟨hn2, ht2, hz2⟩ | rfl
      · have hb1 := hn1.bound
        have hb2 := hn2.bound
        have hm1 := mul_den hn2.den hn1.lo hn1.hi
        have hm2 := mul_den hn1.den hn2.lo hn2.hi
        have hd := dlt_bd (x.n * y.d) (y.n * x.d)
        have e := dlt_den (n1 := x.n) (n2 := y.n) hn1.den hn2.den
        refine agrees_num 5 (fun args w => Tryz.call5 args w) (ivn (f16 (16 * dlt (x.n * y.d) (y.n * x.d)))) ⟨#[68, 69, 76, 84, 65]⟩ [x, y] ⟨1, dlt (x.n * y.d) (y.n * x.d), 1, ⟨#[]⟩⟩ b c w hx (by simp) (by simp) ?_ (by simp) (by simp) ?_ ?_ ?_ ?_
        · intro z hz
          rcases List.mem_cons.1 hz with rfl | hz
          · exact ⟨hn1, ht1⟩
          · have e : z = y := by simpa using hz
            subst e; exact ⟨hn2, ht2⟩
        · exact fun w' hw => callOver_delta x y b 0 c w' (hx.ext hw) k1 k2 _ _ rfl rfl hm1.1 hm1.2 hm2.1 hm2.2
        · intro w' b' c' hl
          refine pack_DELTA (f16 (x.n * (16 / x.d))) (f16 (y.n * (16 / y.d))) (fnum (f16 (16 * dlt (x.n * y.d) (y.n * x.d)))) _ (tame_f16 (by omega) (by omega)) (tame_f16 (by omega) (by omega)) b' c' w' hl (fun w3 fb p B ha => ?_) (fun w3 => doorArg_num _ w3)
          rw [e]
          exact fn_delta _ _ fb p B w3 hb1.1 hb1.2 hb2.1 hb2.2 ha
        · intro w'
          exact of_num (dlt (x.n * y.d) (y.n * x.d)) 1 _ w' (Or.inl rfl) (by simp; omega) (by omega) (by omega)
        · exact (tame_f16 (by omega) (by omega)).self
      · exact absurd k2 (by decide)
    · exact absurd k1 (by decide)
  · refine agrees_no _ _ [x, y] b c w hx (by simp) (by simp) ?_ ?_ fun w' hw => ?_
    · intro z hz
      rcases List.mem_cons.1 hz with rfl | hz
      · rcases h1.kind with h | h <;> rw [h] <;> decide
      · have e : z = y := by simpa using hz
        subst e
        rcases h2.kind with h | h <;> rw [h] <;> decide
    · rcases h1.kind with h | h
      · rcases h2.kind with h' | h'
        · exact absurd ⟨h, h'⟩ hu
        · simp [h']
      · simp [h]
    · have hf := fits_delta x y b 0 c w' (hx.ext hw) h1.kind h2.kind
      rwa [show (numericOf x && numericOf y) = false by
        rcases h1.kind with h | h
        · rcases h2.kind with h' | h'
          · exact absurd ⟨h, h'⟩ hu
          · simp [numericOf, h']
        · simp [numericOf, h]] at hf

set_option maxHeartbeats 800000 in
theorem FnDelta.law_of (n k : Int) (w : World) (_ : -9223372036854775808 ≤ n ∧ n ≤ 9223372036854775807) (_ : -9223372036854775808 ≤ k ∧ k ≤ 9223372036854775807) :
    Calls Tryz.prog 3 #[.int .i64 n, .int .i64 k] w fun e w' => e = .returned (.bool true) ∧ Below w.heap.size w w' := by
  go_enter Tryz.func3, Tryz.ntmps3
  go_wp2_with fail
  refine (argPart_ok n _).mono ?_
  rintro e w1 h1
  obtain ⟨x, rfl, hx, hb1⟩ := NumOr.sc h1
  go_wp2_with fail
  refine (argPart_ok k _).mono ?_
  rintro e w2 h2
  obtain ⟨y, rfl, hy, hb2⟩ := NumOr.sc h2
  go_wp2_with fail
  refine (agrees_delta x y _ _ _ w2.heap.size 2 (lie_two w2 x y) hx hy).mono ?_
  rintro e w3 ⟨rfl, hb3⟩
  go_wp2
  go_ret
  exact ⟨rfl, (by repeat (first | with_reducible exact Below.refl _ _ | with_reducible assumption | ((with_reducible refine Below.setCell ?_ ?_ _); rotate_left; (simp; try omega)) | (with_reducible refine Ext.tr ?_ (by with_reducible assumption)) | (with_reducible refine Ext.al ?_ _) | (with_reducible refine below_drewN ?_ _) | (with_reducible refine Below.drew ?_)))⟩
end Go.Proofs.YtkhbljlnpgpaaabGreatDoor
