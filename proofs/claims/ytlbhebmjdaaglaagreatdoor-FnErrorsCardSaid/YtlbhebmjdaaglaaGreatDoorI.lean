/-
  The thin package's side, on single values: of, all, same.
-/
import Derived.Test.YtlbhebmjdaaglaaGreatDoorE
import Derived.Test.YtlbhebmjdaaglaaGreatDoorG
namespace Go.Proofs.YtlbhebmjdaaglaaGreatDoor
set_option linter.unusedSimpArgs false
set_option linter.unusedVariables false
open Go Go.RowKit
set_option maxRecDepth 100000

/-- The word of Z sixteenths. -/
abbrev f16 (Z : Int) : Nat := Fl.fx (-4) Z

theorem den_div {n d Z : Int} (hd : Den d) (hZ : n * (16 / d) = Z) (h1 : -2 ^ 49 < n) (h2 : n < 2 ^ 49) : Ieee.double.div (Fl.fx 0 n) (Fl.fx 0 d) = some (f16 Z) := by
  have key : ∀ k : Nat, k ≤ 4 → d = 2 ^ k → (16 : Int) / d = 2 ^ (4 - k) → Ieee.double.div (Fl.fx 0 n) (Fl.fx 0 d) = some (f16 Z) := by
    intro k hk e1 e2
    rw [e1, Fl.div_pow (by omega) (by omega) (by omega)]
    congr 1
    rw [← hZ, e2]
    unfold f16
    have hb : (2 : Int) ^ (4 - k) ≤ 16 ∧ (1 : Int) ≤ 2 ^ (4 - k) := by
      rcases (show k = 0 ∨ k = 1 ∨ k = 2 ∨ k = 3 ∨ k = 4 by omega) with rfl | rfl | rfl | rfl | rfl <;> decide
    have hm1 : n * 2 ^ (4 - k) < 2 ^ 53 := by
      rcases (show k = 0 ∨ k = 1 ∨ k = 2 ∨ k = 3 ∨ k = 4 by omega) with rfl | rfl | rfl | rfl | rfl <;> simp <;> omega
    have hm2 : -2 ^ 53 < n * 2 ^ (4 - k) := by
      rcases (show k = 0 ∨ k = 1 ∨ k = 2 ∨ k = 3 ∨ k = 4 by omega) with rfl | rfl | rfl | rfl | rfl <;> simp <;> omega
    rw [Fl.fx_shift (4 - k) hm2 hm1 (by omega) (by omega)]
    congr 1; omega
  rcases hd with rfl | rfl | rfl | rfl | rfl
  · exact key 0 (by omega) rfl rfl
  · exact key 1 (by omega) rfl rfl
  · exact key 2 (by omega) rfl rfl
  · exact key 3 (by omega) rfl rfl
  · exact key 4 (by omega) rfl rfl

set_option maxHeartbeats 800000 in
theorem of_num (n d Z : Int) (w : World) (hd : Den d) (hZ : n * (16 / d) = Z) (h1 : -99999999999 ≤ n) (h2 : n ≤ 99999999999) :
    Calls Tryz.prog 40 #[number n d] w (Gives w (.agg #[.int .i64 1, .float .f64 (f16 Z), .string ⟨#[]⟩, .slice none 0 0])) := by
  have hdiv := fun w => run_float_arith (P := Tryz.prog) w .quo 38 .f64 (Fl.fx 0 n) (Fl.fx 0 d) (f16 Z) (den_div hd hZ (by omega) (by omega))
  clear hd hZ
  go_enter Tryz.func40, Tryz.ntmps40
  go_wp2
  exact bodyPost_ret (v := .agg #[.int .i64 1, .float .f64 (f16 Z), .string ⟨#[]⟩, .slice none 0 0]) (by simp [results, Tryz.results40, go_sem, *]) rfl ⟨rfl, (by repeat (first | with_reducible exact Below.refl _ _ | with_reducible assumption | ((with_reducible refine Below.setCell ?_ ?_ _); rotate_left; (simp; try omega)) | (with_reducible refine Ext.tr ?_ (by with_reducible assumption)) | (with_reducible refine Ext.al ?_ _) | (with_reducible refine below_drewN ?_ _) | (with_reducible refine Below.drew ?_)))⟩
theorem map_take_succ {α β : Type} {xs : List α} {k : Nat} {x : α} (h : Hid (xs[k]? = some x)) (g : α → β) : (xs.take (k + 1)).map g = (xs.take k).map g ++ [g x] := by
  rw [take_succ_at h, List.map_append]; rfl

set_option maxHeartbeats 800000 in
/-- all: each value by of. -/
theorem all_ok (g : Sc → Iv) (xs : List Sc) (b o c : Nat) (w : World) (hl : xs.length ≤ 1000000000) (hx : Lie w b o xs)
    (hof : ∀ x w', x ∈ xs → Calls Tryz.prog 40 #[x.val] w' (Gives w' (g x).val)) :
    Calls Tryz.prog 24 #[.slice (some ⟨b, o, none⟩) xs.length c] w fun e w' => ∃ v, e = .returned v ∧ OwnsI 41 w' w.heap.size v (xs.map g) ∧ Ext w w' := by
  have HX := Lib.hid hx; clear hx
  have HF := Lib.hid hof; clear hof
  go_enter Tryz.func24, Tryz.ntmps24
  go_wp2
  go_loopw [3, 4] (fun v i wr => ∃ k : Nat, k ≤ xs.length ∧ i = .int .i64 k ∧ Ext w wr ∧ OwnsI 41 wr w.heap.size v ((xs.take k).map g)) (fun _ i _ => xs.length - (intOf i).toNat)
  case atStart => exact ⟨0, Nat.zero_le _, rfl, Ext.rf _, GOwns.nil _ _⟩
  case round =>
    obtain ⟨k, hk, rfl, hb, hown⟩ := hrel
    have HO := Lib.hid hown; clear hown
    by_cases hlt : k < xs.length
    · obtain ⟨x, Hx⟩ := elem_at hlt
      obtain ⟨c0, c1, c2, c3, c4⟩ := (HX.out.ext hb) k x Hx.out
      have hcall := HF.out x wr (mem_at Hx)
      have HC := Lib.hid hcall; clear hcall
      go_wp2_with fail
      refine (HC.out).mono ?_
      rintro e w1 ⟨rfl, hb1⟩
      have hown1 := Lib.hid (HO.out.ext hb1)
      have hb2 := hb.tr hb1
      have hsz := hb2.size
      go_wp2_with (at_builtin; refine gappend (cells := Iv.cells) (z := 4) (ty := 41) (by decide) Iv.cells_len Iv.cells_one infoIVal rfl Tryz.underlying42 (by decide) rfl _ _ rfl w.heap.size _ ((xs.take k).map g) rfl (hown1.out.alloc _) w1.heap.size 0 1 [g x] rfl (glie_one w1 (g x) _ _ rfl) (by simp; omega) (by simp; omega) ?_; intro v' w2 hown2 hg2)
      have hb3 : Ext w w2 := Below.grown (hb2.al _) hg2 (by simp; omega) hown1.out.below
      have HO2 := Lib.hid hown2; clear hown2
      go_roundw
      case rel => exact ⟨k + 1, by omega, by go_num, hb3, by rw [map_take_succ Hx]; exact HO2.out⟩
      case measure => simp [intOf]; omega
    · go_wp2
      go_ret
      refine ⟨_, rfl, ?_, hb⟩
      have := HO.out
      rw [List.take_of_length_le (by omega)] at this
      exact this

theorem all_at (g : Sc → Iv) (xs : List Sc) (b o c : Nat) (w : World) (hl : xs.length ≤ 1000000000) (hx : Lie w b o xs) (hne : xs ≠ [])
    (hof : ∀ x w', x ∈ xs → Calls Tryz.prog 40 #[x.val] w' (Gives w' (g x).val)) :
    Calls Tryz.prog 24 #[.slice (some ⟨b, o, none⟩) xs.length c] w fun e w' => ∃ b' c', e = .returned (.slice (some ⟨b', 0, none⟩) xs.length c') ∧ LieI w' b' 0 (xs.map g) ∧ Ext w w' := by
  refine (all_ok g xs b o c w hl hx hof).mono ?_
  rintro e w' ⟨v, rfl, hown, hb⟩
  obtain ⟨b', c', rfl, _, hlie⟩ := hown.lie Iv.cells_len (by simpa using hne)
  rw [List.length_map]
  exact ⟨b', c', rfl, hlie, hb⟩

set_option maxHeartbeats 800000 in
/-- in: each single value as the package has it. -/
theorem in_ok (xs : List Iv) (b o c : Nat) (w : World) (hl : xs.length ≤ 1000000000) (hx : LieI w b o xs) :
    Calls Tryz.prog 28 #[.slice (some ⟨b, o, none⟩) xs.length c] w fun e w' => ∃ v, e = .returned v ∧ OwnsI 48 w' w.heap.size v xs ∧ Ext w w' := by
  have HX := Lib.hid hx; clear hx
  go_enter Tryz.func28, Tryz.ntmps28
  go_wp2
  go_loopw [3, 11] (fun v i wr => ∃ k : Nat, k ≤ xs.length ∧ i = .int .i64 k ∧ Ext w wr ∧ OwnsI 48 wr w.heap.size v (xs.take k)) (fun _ i _ => xs.length - (intOf i).toNat)
  case atStart => exact ⟨0, Nat.zero_le _, rfl, Ext.rf _, GOwns.nil _ _⟩
  case round =>
    obtain ⟨k, hk, rfl, hb, hown⟩ := hrel
    have HO := Lib.hid hown; clear hown
    by_cases hlt : k < xs.length
    · obtain ⟨x, Hx⟩ := elem_at hlt
      obtain ⟨c0, c1, c2, c3⟩ := LieI.at (HX.out.ext hb) Hx.out
      have hsz := hb.size
      go_wp2_with fail
      refine wp_loop_rounds 1 ?_
      rw [rounds_succ]
      go_wp2_with (at_builtin; refine gappend (cells := Iv.cells) (z := 4) (ty := 48) (by decide) Iv.cells_len Iv.cells_one infoArg rfl Tryz.underlying50 (by decide) rfl _ _ rfl w.heap.size _ (xs.take k) rfl (((HO.out.alloc _).alloc _).alloc _) (wr.heap.size + 1 + 1) 0 1 [x] rfl (by have := glie_one (cells := Iv.cells) (z := 4) ((wr.alloc (.cells #[.int .i64 x.k, .float .f64 x.f, .string x.t, .slice none 0 0] 41)).alloc (.cells #[.int .i64 x.k, .float .f64 x.f, .string x.t, .slice none 0 0] 48)) x 48 #[.int .i64 x.k, .float .f64 x.f, .string x.t, .slice none 0 0] rfl; simpa using this) (by simp; omega) (by simp; omega) ?_; intro v' w2 hown2 hg2)
      have hb3 : Ext w w2 := Below.grown (((hb.al _).al _).al _) hg2 (by simp; omega) HO.out.below
      have HO2 := Lib.hid hown2; clear hown2
      go_roundw
      case rel => exact ⟨k + 1, by omega, by go_num, hb3, by rw [take_succ_at Hx]; exact HO2.out⟩
      case measure => simp [intOf]; omega
    · go_wp2
      go_ret
      refine ⟨_, rfl, ?_, hb⟩
      have := HO.out
      rw [List.take_of_length_le (by omega)] at this
      exact this

theorem in_at (xs : List Iv) (b o c : Nat) (w : World) (hl : xs.length ≤ 1000000000) (hx : LieI w b o xs) (hne : xs ≠ []) :
    Calls Tryz.prog 28 #[.slice (some ⟨b, o, none⟩) xs.length c] w fun e w' => ∃ b' c', e = .returned (.slice (some ⟨b', 0, none⟩) xs.length c') ∧ LieI w' b' 0 xs ∧ Ext w w' := by
  refine (in_ok xs b o c w hl hx).mono ?_
  rintro e w' ⟨v, rfl, hown, hb⟩
  obtain ⟨b', c', rfl, _, hlie⟩ := hown.lie Iv.cells_len hne
  exact ⟨b', c', rfl, hlie, hb⟩

set_option maxHeartbeats 800000 in
/-- out: a single value back. -/
theorem out_ok (x : Iv) (w : World) : Calls Tryz.prog 26 #[x.val] w (Gives w x.val) := by
  go_enter Tryz.func26, Tryz.ntmps26
  go_wp2_with fail
  refine wp_loop_rounds 1 ?_
  rw [rounds_succ]
  go_wp2
  exact bodyPost_ret (v := x.val) (by simp [results, Tryz.results26, go_sem, *]) rfl ⟨rfl, (by repeat (first | with_reducible exact Below.refl _ _ | with_reducible assumption | ((with_reducible refine Below.setCell ?_ ?_ _); rotate_left; (simp; try omega)) | (with_reducible refine Ext.tr ?_ (by with_reducible assumption)) | (with_reducible refine Ext.al ?_ _) | (with_reducible refine below_drewN ?_ _) | (with_reducible refine Below.drew ?_)))⟩
end Go.Proofs.YtlbhebmjdaaglaaGreatDoor
