/-
  The leaves of strconv.FormatFloat's shortest form.
-/
import Derived.Test.YtlbhebmjdaaglaaGreatDoorProg
import Derived.Test.YtlbhebmjdaaglaaGreatDoorFw
import Derived.Test.YtlbhebmjdaaglaaGreatDoorFf
import Derived.Lib.Mul64
import Derived.Laws.Bits64b
import Derived.WalkKit
import Derived.Lib.Hide
namespace Go.Proofs.YtlbhebmjdaaglaaGreatDoor
set_option linter.unusedSimpArgs false
set_option linter.unusedVariables false
open Go Go.RowKit
set_option maxRecDepth 100000

theorem and_one (a : Nat) (h : a < 18446744073709551616) : bits .and .u64 (a : Int) 1 = ((a % 2 : Nat) : Int) := by
  have h := bits_and_u64_nat a 1 h (by omega)
  have e : a &&& 1 = a % 2 := Nat.and_two_pow_sub_one_eq_mod a 1
  rw [e] at h
  exact h

theorem l10_ok (x : Int) (w : World) (h1 : -100000 ≤ x) (h2 : x ≤ 100000) : Calls Tryz.prog 122 #[.int .i64 x] w fun e w' => e = .returned (.int .i64 (Ff.l10 x)) ∧ w' = w := by
  go_enter Tryz.func122, Tryz.ntmps122
  go_wp2
  go_ret
  exact ⟨rfl, rfl⟩

theorem l2_ok (x : Int) (w : World) (h1 : -100000 ≤ x) (h2 : x ≤ 100000) : Calls Tryz.prog 149 #[.int .i64 x] w fun e w' => e = .returned (.int .i64 (Ff.l2 x)) ∧ w' = w := by
  go_enter Tryz.func149, Tryz.ntmps149
  go_wp2
  go_ret
  exact ⟨rfl, rfl⟩

theorem skw_ok (x : Int) (w : World) (h1 : -100000 ≤ x) (h2 : x ≤ 100000) : Calls Tryz.prog 147 #[.int .i64 x] w fun e w' => e = .returned (.int .i64 (Ff.skw x)) ∧ w' = w := by
  go_enter Tryz.func147, Tryz.ntmps147
  go_wp2
  go_ret
  exact ⟨rfl, rfl⟩

theorem b2i_ok (b : Bool) (w : World) : Calls Tryz.prog 156 #[.bool b] w fun e w' => e = .returned (.int .i64 (if b then 1 else 0)) ∧ w' = w := by
  cases b
  all_goals
    go_enter Tryz.func156, Tryz.ntmps156
    go_wp2
    go_ret
    exact ⟨rfl, rfl⟩

theorem b2u_ok (b : Bool) (w : World) : Calls Tryz.prog 139 #[.bool b] w fun e w' => e = .returned (.int .u64 (if b then 1 else 0)) ∧ w' = w := by
  cases b
  all_goals
    go_enter Tryz.func139, Tryz.ntmps139
    go_wp2
    go_ret
    exact ⟨rfl, rfl⟩

theorem b2u_n (p : Prop) [Decidable p] (a : Nat) (h : (if p then 1 else 0) = a) (w : World) : Calls Tryz.prog 139 #[.bool (decide p)] w fun e w' => e = .returned (.int .u64 (a : Int)) ∧ w' = w := by
  have h2 := b2u_ok (decide p) w
  subst h
  by_cases hp : p
  · rw [if_pos hp]; simpa [hp] using h2
  · rw [if_neg hp]; simpa [hp] using h2

theorem ceil_ok (u : Nat) (w : World) (h : u < 18446744073709551612) : Calls Tryz.prog 152 #[.int .u64 u] w fun e w' => e = .returned (.int .u64 ((u + 3) / 4 : Nat)) ∧ w' = w := by
  go_enter Tryz.func152, Tryz.ntmps152
  go_wp2
  go_ret
  exact ⟨by rw [show (((u + 3) / 4 : Nat) : Int) = ((u : Int) + 3) / 4 by omega]; rfl, rfl⟩

theorem floor_any (u : Nat) (w : World) (h : u < 18446744073709551616) : Calls Tryz.prog 153 #[.int .u64 u] w fun e w' => e = .returned (.int .u64 (u / 4 : Nat)) ∧ w' = w := by
  go_enter Tryz.func153, Tryz.ntmps153
  go_wp2
  go_ret
  exact ⟨by rw [show ((u / 4 : Nat) : Int) = (u : Int) / 4 by omega]; rfl, rfl⟩

theorem round_ok (u : Nat) (w : World) (h : u < 18446744073709551612) : Calls Tryz.prog 154 #[.int .u64 u] w fun e w' => e = .returned (.int .u64 ((u + 1 + u / 4 % 2) / 4 : Nat)) ∧ w' = w := by
  have hb := and_one (u / 4) (by omega)
  rw [show ((u / 4 : Nat) : Int) = (u : Int) / 4 by omega] at hb
  have hw : IntKind.u64.wrap ((u : Int) + 1 + ((u / 4 % 2 : Nat) : Int)) = (u : Int) + 1 + ((u / 4 % 2 : Nat) : Int) := by rw [IntKind.wrap_u64]; omega
  have HB := Lib.hid hb; have HW := Lib.hid hw
  clear hb hw
  go_enter Tryz.func154, Tryz.ntmps154
  go_wp2
  go_ret
  refine ⟨?_, rfl⟩
  rw [HB.out, HW.out]
  rw [show (((u + 1 + u / 4 % 2) / 4 : Nat) : Int) = ((u : Int) + 1 + ((u / 4 % 2 : Nat) : Int)) / 4 by omega]; rfl

theorem nudge_up (u k : Nat) (w : World) (h : u < 4611686018427387904) (h1 : k ≤ 1) : Calls Tryz.prog 151 #[.int .u64 u, .int .i64 k] w fun e w' => e = .returned (.int .u64 ((u + k : Nat) : Int)) ∧ w' = w := by
  go_enter Tryz.func151, Tryz.ntmps151
  go_wp2
  go_ret
  refine ⟨?_, rfl⟩
  have e : IntKind.u64.wrap ((u : Int) + IntKind.u64.wrap k) = ((u + k : Nat) : Int) := by rw [IntKind.wrap_u64, IntKind.wrap_u64]; omega
  first | (rw [e]; rfl) | (simp)

theorem nudge_down (u k : Nat) (w : World) (h : u < 4611686018427387904) (h1 : k ≤ 1) : Calls Tryz.prog 151 #[.int .u64 u, .int .i64 (-(k : Int))] w fun e w' => e = .returned (.int .u64 (((u + 18446744073709551616 - k) % 18446744073709551616 : Nat) : Int)) ∧ w' = w := by
  go_enter Tryz.func151, Tryz.ntmps151
  go_wp2
  go_ret
  refine ⟨?_, rfl⟩
  have e : IntKind.u64.wrap ((u : Int) + IntKind.u64.wrap (-(k : Int))) = (((u + 18446744073709551616 - k) % 18446744073709551616 : Nat) : Int) := by rw [IntKind.wrap_u64, IntKind.wrap_u64]; omega
  rw [e]; rfl
end Go.Proofs.YtlbhebmjdaaglaaGreatDoor
