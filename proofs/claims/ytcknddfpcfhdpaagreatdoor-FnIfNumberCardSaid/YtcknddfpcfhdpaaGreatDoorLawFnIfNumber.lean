/-
  FnIfNumber: what the call comes to.
-/
import Derived.Test.YtcknddfpcfhdpaaGreatDoorPIf
import Derived.Test.YtcknddfpcfhdpaaGreatDoorIf5
import Derived.Test.YtcknddfpcfhdpaaGreatDoorPart
namespace Go.Proofs.YtcknddfpcfhdpaaGreatDoor
set_option linter.unusedSimpArgs false
set_option linter.unusedVariables false
open Go Go.RowKit
set_option maxRecDepth 100000

theorem numK_int {n : Int} (h1 : -99999999999 ≤ n) (h2 : n ≤ 99999999999) : NumK ⟨1, n, 1, ⟨#[]⟩⟩ := ⟨rfl, Or.inl rfl, h1, h2⟩

theorem gnum_int {n : Int} (h1 : -99999999999 ≤ n) (h2 : n ≤ 99999999999) : gnum ⟨1, n, 1, ⟨#[]⟩⟩ = ivn (Fl.fx 0 n) := by
  unfold gnum
  rw [show (⟨1, n, 1, ⟨#[]⟩⟩ : Sc).n * (16 / (⟨1, n, 1, ⟨#[]⟩⟩ : Sc).d) = 16 * n by show n * (16 / 1) = 16 * n; omega, f16_whole (by omega) (by omega)]

theorem of_int {n : Int} (h1 : -99999999999 ≤ n) (h2 : n ≤ 99999999999) (w : World) : Calls Tryz.prog 18 #[(numSc n).val] w (Gives w (ivn (Fl.fx 0 n)).val) := by
  rw [← f16_whole (n := n) (by omega) (by omega)]
  exact of_num n 1 (16 * n) w (Or.inl rfl) (by omega) h1 h2

theorem fx_nil : Fl.fx 0 0 = 0 := by decide

set_option maxHeartbeats 400000 in
theorem of_false (w : World) : Calls Tryz.prog 18 #[Sc.val ⟨3, 0, 0, ⟨#[]⟩⟩] w (Gives w (Iv.val ⟨3, 0, ⟨#[]⟩⟩)) := by
  go_enter Tryz.func18, Tryz.ntmps18
  go_wp2
  exact bodyPost_ret (v := Iv.val ⟨3, 0, ⟨#[]⟩⟩) (by simp [results, Tryz.results18, go_sem, *, fx_nil]) rfl ⟨rfl, (by repeat (first | with_reducible exact Below.refl _ _ | with_reducible assumption | ((with_reducible refine Below.setCell ?_ ?_ _); rotate_left; (simp; try omega)) | (with_reducible refine Ext.tr ?_ (by with_reducible assumption)) | (with_reducible refine Ext.al ?_ _) | (with_reducible refine below_drewN ?_ _) | (with_reducible refine Below.drew ?_)))⟩

theorem WholeOk.wh {n : Int} {x : Sc} (h : WholeOk n x) : Wh x := by
  rcases h with ⟨rfl, h⟩ | rfl
  · exact Or.inl ⟨n, rfl, h⟩
  · exact Or.inr rfl

/-- A number that the reference speaks of, or none. -/
theorem Wh.num {x : Sc} (h : Wh x) (hk : x.k = 1) : ∃ n, x = numSc n ∧ -99999999999 ≤ n ∧ n ≤ 99999999999 := by
  rcases h with ⟨n, rfl, h⟩ | rfl
  · exact ⟨n, rfl, h⟩
  · exact absurd hk (by decide)

theorem Wh.no {x : Sc} (h : Wh x) (hk : ¬ x.k = 1) : x = ⟨6, 0, 0, ⟨#[]⟩⟩ := by
  rcases h with ⟨n, rfl, h⟩ | rfl
  · exact absurd rfl hk
  · rfl

theorem Wh.k5 {x : Sc} (h : Wh x) : x.k ≠ 5 := by
  rcases h.kind with h | h <;> rw [h] <;> decide

theorem one_all {p : Sc → Prop} {x : Sc} (h1 : p x) : ∀ z ∈ [x], p z := by
  intro z hz
  have e : z = x := by simpa using hz
  subst e; exact h1
theorem cons_all {p : Sc → Prop} {x : Sc} {xs : List Sc} (h1 : p x) (h2 : ∀ z ∈ xs, p z) : ∀ z ∈ x :: xs, p z := by
  intro z hz
  rcases List.mem_cons.1 hz with rfl | hz
  · exact h1
  · exact h2 z hz

theorem fx_one : Fl.fx 0 1 = 4607182418800017408 := by decide

theorem tame_int {n : Int} (h1 : -99999999999 ≤ n) (h2 : n ≤ 99999999999) : Tame (Fl.fx 0 n) := tame_fx0 (by omega) (by omega)

theorem pack_if_yes2 (n : Int) (b c : Nat) (w : World) (n1 : -99999999999 ≤ n) (n2 : n ≤ 99999999999) (hl : LieI w b 0 [ivn (Fl.fx 0 1), ivn (Fl.fx 0 n)]) :
    Calls Tryz.prog 5 #[.slice (some ⟨b, 0, none⟩) 2 c] w (Gives w (Iv.val (ivn (Fl.fx 0 n)))) := by
  rw [fx_one] at hl
  refine pack_IF [4607182418800017408, Fl.fx 0 n] (fnum (Fl.fx 0 n)) (ivn (Fl.fx 0 n)) ?_ (by simp) (by simp) b c w hl (fun w3 fb p B ha => if_yes_2 _ fb p B w3 (tame_int n1 n2) ha) (fun w3 => doorArg_num _ w3)
  intro a ha
  rcases List.mem_cons.1 ha with rfl | ha
  · exact tame_one
  · have e : a = Fl.fx 0 n := by simpa using ha
    subst e; exact tame_int n1 n2

theorem pack_if_no2 (n : Int) (b c : Nat) (w : World) (n1 : -99999999999 ≤ n) (n2 : n ≤ 99999999999) (hl : LieI w b 0 [ivn (Fl.fx 0 0), ivn (Fl.fx 0 n)]) :
    Calls Tryz.prog 5 #[.slice (some ⟨b, 0, none⟩) 2 c] w (Gives w (Iv.val ⟨3, 0, ⟨#[]⟩⟩)) := by
  rw [fx_nil] at hl
  refine pack_IF [0, Fl.fx 0 n] (fbool 0) ⟨3, 0, ⟨#[]⟩⟩ ?_ (by simp) (by simp) b c w hl (fun w3 fb p B ha => if_no_2 _ fb p B w3 ha) (fun w3 => doorArg_bool _ w3)
  intro a ha
  rcases List.mem_cons.1 ha with rfl | ha
  · exact tame_zero
  · have e : a = Fl.fx 0 n := by simpa using ha
    subst e; exact tame_int n1 n2

theorem pack_if_yes3 (n k : Int) (b c : Nat) (w : World) (n1 : -99999999999 ≤ n) (n2 : n ≤ 99999999999) (k1 : -99999999999 ≤ k) (k2 : k ≤ 99999999999) (hl : LieI w b 0 [ivn (Fl.fx 0 1), ivn (Fl.fx 0 n), ivn (Fl.fx 0 k)]) :
    Calls Tryz.prog 5 #[.slice (some ⟨b, 0, none⟩) 3 c] w (Gives w (Iv.val (ivn (Fl.fx 0 n)))) := by
  rw [fx_one] at hl
  refine pack_IF [4607182418800017408, Fl.fx 0 n, Fl.fx 0 k] (fnum (Fl.fx 0 n)) (ivn (Fl.fx 0 n)) ?_ (by simp) (by simp) b c w hl (fun w3 fb p B ha => if_yes_3 _ _ fb p B w3 (tame_int n1 n2) ha) (fun w3 => doorArg_num _ w3)
  intro a ha
  rcases List.mem_cons.1 ha with rfl | ha
  · exact tame_one
  · rcases List.mem_cons.1 ha with rfl | ha
    · exact tame_int n1 n2
    · have e : a = Fl.fx 0 k := by simpa using ha
      subst e; exact tame_int k1 k2

theorem pack_if_no3 (n k : Int) (b c : Nat) (w : World) (n1 : -99999999999 ≤ n) (n2 : n ≤ 99999999999) (k1 : -99999999999 ≤ k) (k2 : k ≤ 99999999999) (hl : LieI w b 0 [ivn (Fl.fx 0 0), ivn (Fl.fx 0 n), ivn (Fl.fx 0 k)]) :
    Calls Tryz.prog 5 #[.slice (some ⟨b, 0, none⟩) 3 c] w (Gives w (Iv.val (ivn (Fl.fx 0 k)))) := by
  rw [fx_nil] at hl
  refine pack_IF [0, Fl.fx 0 n, Fl.fx 0 k] (fnum (Fl.fx 0 k)) (ivn (Fl.fx 0 k)) ?_ (by simp) (by simp) b c w hl (fun w3 fb p B ha => if_no_3 _ _ fb p B w3 (tame_int k1 k2) ha) (fun w3 => doorArg_num _ w3)
  intro a ha
  rcases List.mem_cons.1 ha with rfl | ha
  · exact tame_zero
  · rcases List.mem_cons.1 ha with rfl | ha
    · exact tame_int n1 n2
    · have e : a = Fl.fx 0 k := by simpa using ha
      subst e; exact tame_int k1 k2

theorem lie_three (w : World) (x y z : Sc) : Lie (w.alloc (.cells #[.int .i64 x.k, .int .i64 x.n, .int .i64 x.d, .string x.t, .slice none 0 0, .int .i64 y.k, .int .i64 y.n, .int .i64 y.d, .string y.t, .slice none 0 0, .int .i64 z.k, .int .i64 z.n, .int .i64 z.d, .string z.t, .slice none 0 0] 26)) w.heap.size 0 [x, y, z] := by
  intro i u hu
  cases i with
  | zero =>
    have e : x = u := by simpa using hu
    subst e
    exact ⟨World.cell?_alloc_at _ _ _ _ rfl, World.cell?_alloc_at _ _ _ _ rfl, World.cell?_alloc_at _ _ _ _ rfl, World.cell?_alloc_at _ _ _ _ rfl, World.cell?_alloc_at _ _ _ _ rfl⟩
  | succ i =>
    cases i with
    | zero =>
      have e : y = u := by simpa using hu
      subst e
      exact ⟨World.cell?_alloc_at _ _ _ _ rfl, World.cell?_alloc_at _ _ _ _ rfl, World.cell?_alloc_at _ _ _ _ rfl, World.cell?_alloc_at _ _ _ _ rfl, World.cell?_alloc_at _ _ _ _ rfl⟩
    | succ i =>
      cases i with
      | zero =>
        have e : z = u := by simpa using hu
        subst e
        exact ⟨World.cell?_alloc_at _ _ _ _ rfl, World.cell?_alloc_at _ _ _ _ rfl, World.cell?_alloc_at _ _ _ _ rfl, World.cell?_alloc_at _ _ _ _ rfl, World.cell?_alloc_at _ _ _ _ rfl⟩
      | succ i => simp at hu

theorem any_six {xs : List Sc} (h : ∀ x ∈ xs, x.k = 1) : xs.any (fun y => y.k == 6) = false := by
  rw [List.any_eq_false]
  intro x hm
  rw [h x hm]; decide

set_option maxHeartbeats 800000 in
theorem agrees_if_2 (x y : Sc) (w : World) (b : Nat) (hx : Lie w b 0 [x, y]) (h1 : Wh x) (h2 : Wh y) :
    Calls Tryz.prog 4 #[.func (.func 5) #[] #[], .string ⟨#[73, 70]⟩, .slice (some ⟨b, 0, none⟩) 2 2] w (Gives w (.bool true)) := by
  by_cases hu : x.k = 1 ∧ y.k = 1
  · obtain ⟨c, rfl, c1, c2⟩ := h1.num hu.1
    obtain ⟨n, rfl, n1, n2⟩ := h2.num hu.2
    have hall : ∀ z ∈ [numSc c, numSc n], NumK z ∧ z.t = ⟨#[]⟩ := cons_all ⟨numK_int c1 c2, rfl⟩ (one_all ⟨numK_int n1 n2, rfl⟩)
    by_cases hc : c = 0 ∨ c = 1
    · have hover := fun w' (hw : Ext w w') => callOver_if_2 c n b w' (hx.ext hw) hc h1 h2
      have hin : ∀ w' b', LieI w' b' 0 ([numSc c, numSc n].map gnum) → LieI w' b' 0 [ivn (Fl.fx 0 c), ivn (Fl.fx 0 n)] := by
        intro w' b' h
        rw [List.map_cons, List.map_cons, List.map_nil, gnum_int n1 n2, gnum_int c1 c2] at h
        exact h
      rcases hc with rfl | rfl
      · refine agrees_num 5 (fun args w => Tryz.call5 args w) ⟨3, 0, ⟨#[]⟩⟩ ⟨#[73, 70]⟩ [numSc 0, numSc n] ⟨3, 0, 0, ⟨#[]⟩⟩ b 2 w hx (by simp) (by simp) hall (by simp) (by simp) hover ?_ (fun w' => of_false w') (by decide)
        intro w' b' c' hl
        exact pack_if_no2 n b' c' w' n1 n2 (hin w' b' hl)
      · refine agrees_num 5 (fun args w => Tryz.call5 args w) (ivn (Fl.fx 0 n)) ⟨#[73, 70]⟩ [numSc 1, numSc n] (numSc n) b 2 w hx (by simp) (by simp) hall (by simp) (by simp) hover ?_ (fun w' => of_int n1 n2 w') (tame_int n1 n2).self
        intro w' b' c' hl
        exact pack_if_yes2 n b' c' w' n1 n2 (hin w' b' hl)
    · refine agrees_unsure_want _ _ [numSc c, numSc n] ⟨6, 0, 0, ⟨#[]⟩⟩ b 0 2 w hx (by simp) (by simp) (by simp) (by simp) rfl
        fun w' hw => call_of _ _ _ _ ⟨6, 0, 0, ⟨#[]⟩⟩ w' fun w2 hw2 => callOver_no _ _ _ _ w2 fun w3 hw3 => ?_
      have h := fits_if_2 _ _ b w3 (hx.ext ((hw.tr hw2).tr hw3)) h1 h2
      rwa [show (isCond (numSc c) && [numSc n].all numericOf) = false by
        have : ¬ (0 ≤ c ∧ c ≤ 1) := by omega
        simp only [isCond, numericOf]
        rw [show (decide (0 ≤ c) && decide (c ≤ 1)) = false by simpa using this]
        simp] at h
  · refine agrees_no _ _ [x, y] b 2 w hx (by simp) (by simp) (cons_all h1.k5 (one_all h2.k5)) ?_ fun w' hw => ?_
    · by_cases k1 : x.k = 1
      · rw [h2.no fun k2 => hu ⟨k1, k2⟩]; simp
      · rw [h1.no k1]; simp
    · have hf := fits_if_2 x y b w' (hx.ext hw) h1 h2
      rwa [show (isCond x && [y].all numericOf) = false by
        by_cases k1 : x.k = 1
        · rw [h2.no fun k2 => hu ⟨k1, k2⟩]; simp [numericOf]
        · rw [h1.no k1]; simp [isCond, numericOf]] at hf

set_option maxHeartbeats 800000 in
theorem agrees_if_3 (x y z : Sc) (w : World) (b : Nat) (hx : Lie w b 0 [x, y, z]) (h1 : Wh x) (h2 : Wh y) (h3 : Wh z) :
    Calls Tryz.prog 4 #[.func (.func 5) #[] #[], .string ⟨#[73, 70]⟩, .slice (some ⟨b, 0, none⟩) 3 3] w (Gives w (.bool true)) := by
  by_cases hu : x.k = 1 ∧ y.k = 1 ∧ z.k = 1
  · obtain ⟨c, rfl, c1, c2⟩ := h1.num hu.1
    obtain ⟨n, rfl, n1, n2⟩ := h2.num hu.2.1
    obtain ⟨k, rfl, k1, k2⟩ := h3.num hu.2.2
    have hall : ∀ u ∈ [numSc c, numSc n, numSc k], NumK u ∧ u.t = ⟨#[]⟩ := cons_all ⟨numK_int c1 c2, rfl⟩ (cons_all ⟨numK_int n1 n2, rfl⟩ (one_all ⟨numK_int k1 k2, rfl⟩))
    by_cases hc : c = 0 ∨ c = 1
    · have hover := fun w' (hw : Ext w w') => callOver_if_3 c n k b w' (hx.ext hw) hc h1 h2 h3
      have hin : ∀ w' b', LieI w' b' 0 ([numSc c, numSc n, numSc k].map gnum) → LieI w' b' 0 [ivn (Fl.fx 0 c), ivn (Fl.fx 0 n), ivn (Fl.fx 0 k)] := by
        intro w' b' h
        rw [List.map_cons, List.map_cons, List.map_cons, List.map_nil, gnum_int n1 n2, gnum_int c1 c2, gnum_int k1 k2] at h
        exact h
      rcases hc with rfl | rfl
      · refine agrees_num 5 (fun args w => Tryz.call5 args w) (ivn (Fl.fx 0 k)) ⟨#[73, 70]⟩ [numSc 0, numSc n, numSc k] (numSc k) b 3 w hx (by simp) (by simp) hall (by simp) (by simp) hover ?_ (fun w' => of_int k1 k2 w') (tame_int k1 k2).self
        intro w' b' c' hl
        exact pack_if_no3 n k b' c' w' n1 n2 k1 k2 (hin w' b' hl)
      · refine agrees_num 5 (fun args w => Tryz.call5 args w) (ivn (Fl.fx 0 n)) ⟨#[73, 70]⟩ [numSc 1, numSc n, numSc k] (numSc n) b 3 w hx (by simp) (by simp) hall (by simp) (by simp) hover ?_ (fun w' => of_int n1 n2 w') (tame_int n1 n2).self
        intro w' b' c' hl
        exact pack_if_yes3 n k b' c' w' n1 n2 k1 k2 (hin w' b' hl)
    · refine agrees_unsure_want _ _ [numSc c, numSc n, numSc k] ⟨6, 0, 0, ⟨#[]⟩⟩ b 0 3 w hx (by simp) (by simp) (by simp) (by simp) rfl
        fun w' hw => call_of _ _ _ _ ⟨6, 0, 0, ⟨#[]⟩⟩ w' fun w2 hw2 => callOver_no _ _ _ _ w2 fun w3 hw3 => ?_
      have h := fits_if_3 _ _ _ b w3 (hx.ext ((hw.tr hw2).tr hw3)) h1 h2 h3
      rwa [show (isCond (numSc c) && [numSc n, numSc k].all numericOf) = false by
        have : ¬ (0 ≤ c ∧ c ≤ 1) := by omega
        simp only [isCond, numericOf]
        rw [show (decide (0 ≤ c) && decide (c ≤ 1)) = false by simpa using this]
        simp] at h
  · refine agrees_no _ _ [x, y, z] b 3 w hx (by simp) (by simp) (cons_all h1.k5 (cons_all h2.k5 (one_all h3.k5))) ?_ fun w' hw => ?_
    · by_cases k1 : x.k = 1
      · by_cases k2 : y.k = 1
        · rw [h3.no fun k3 => hu ⟨k1, k2, k3⟩]; simp
        · rw [h2.no k2]; simp
      · rw [h1.no k1]; simp
    · have hf := fits_if_3 x y z b w' (hx.ext hw) h1 h2 h3
      rwa [show (isCond x && [y, z].all numericOf) = false by
        by_cases k1 : x.k = 1
        · by_cases k2 : y.k = 1
          · rw [h3.no fun k3 => hu ⟨k1, k2, k3⟩]; simp [numericOf]
          · rw [h2.no k2]; simp [numericOf]
        · rw [h1.no k1]; simp [isCond, numericOf]] at hf

set_option maxHeartbeats 1600000 in
theorem FnIfNumber.law_of (c n k : Int) (only : Bool) (w : World) (_ : -9223372036854775808 ≤ c ∧ c ≤ 9223372036854775807) (_ : -9223372036854775808 ≤ n ∧ n ≤ 9223372036854775807) (_ : -9223372036854775808 ≤ k ∧ k ≤ 9223372036854775807) :
    Calls Tryz.prog 3 #[.int .i64 c, .int .i64 n, .int .i64 k, .bool only] w fun e w' => e = .returned (.bool true) ∧ Below w.heap.size w w' := by
  cases only
  · go_enter Tryz.func3, Tryz.ntmps3
    go_wp2_with fail
    refine (argWhole_ok c _).mono ?_
    rintro e w1 ⟨x, rfl, hx, hb1⟩
    go_wp2_with fail
    refine (argWhole_ok n _).mono ?_
    rintro e w2 ⟨y, rfl, hy, hb2⟩
    go_wp2_with fail
    refine (argWhole_ok k _).mono ?_
    rintro e w3 ⟨z, rfl, hz, hb3⟩
    go_wp2_with fail
    refine (agrees_if_3 x y z _ w3.heap.size (lie_three w3 x y z) hx.wh hy.wh hz.wh).mono ?_
    rintro e w4 ⟨rfl, hb4⟩
    go_wp2
    go_ret
    exact ⟨rfl, (by repeat (first | with_reducible exact Below.refl _ _ | with_reducible assumption | ((with_reducible refine Below.setCell ?_ ?_ _); rotate_left; (simp; try omega)) | (with_reducible refine Ext.tr ?_ (by with_reducible assumption)) | (with_reducible refine Ext.al ?_ _) | (with_reducible refine below_drewN ?_ _) | (with_reducible refine Below.drew ?_)))⟩
  · go_enter Tryz.func3, Tryz.ntmps3
    go_wp2_with fail
    refine (argWhole_ok c _).mono ?_
    rintro e w1 ⟨x, rfl, hx, hb1⟩
    go_wp2_with fail
    refine (argWhole_ok n _).mono ?_
    rintro e w2 ⟨y, rfl, hy, hb2⟩
    go_wp2_with fail
    refine (agrees_if_2 x y _ w2.heap.size (lie_two w2 x y) hx.wh hy.wh).mono ?_
    rintro e w3 ⟨rfl, hb3⟩
    go_wp2
    go_ret
    exact ⟨rfl, (by repeat (first | with_reducible exact Below.refl _ _ | with_reducible assumption | ((with_reducible refine Below.setCell ?_ ?_ _); rotate_left; (simp; try omega)) | (with_reducible refine Ext.tr ?_ (by with_reducible assumption)) | (with_reducible refine Ext.al ?_ _) | (with_reducible refine below_drewN ?_ _) | (with_reducible refine Below.drew ?_)))⟩
end Go.Proofs.YtcknddfpcfhdpaaGreatDoor
