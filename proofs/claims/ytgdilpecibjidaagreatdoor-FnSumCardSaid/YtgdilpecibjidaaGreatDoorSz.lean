/-
  SUM: what both sides say is the same.
-/
import Derived.Test.YtgdilpecibjidaaGreatDoorSx
import Derived.Test.YtgdilpecibjidaaGreatDoorWi
namespace Go.Proofs.YtgdilpecibjidaaGreatDoor
set_option linter.unusedSimpArgs false
set_option linter.unusedVariables false
open Go Go.RowKit
set_option maxRecDepth 100000

theorem f16_inj {a b : Int} (h1 : -2 ^ 53 < a) (h2 : a < 2 ^ 53) (h3 : -2 ^ 53 < b) (h4 : b < 2 ^ 53) (h : f16 a = f16 b) : a = b := by
  have e1 := order_f16 h1 h2 h3 h4
  have e2 := order_f16 h3 h4 h3 h4
  rw [h, e2, cmp_eq rfl] at e1
  have e3 := Option.some.inj e1
  rcases Int.lt_trichotomy a b with hl | he | hg
  · rw [cmp_lt hl] at e3; cases e3
  · exact he
  · rw [cmp_gt hg] at e3; cases e3

/-- The sixteenths of a word. -/
noncomputable def zdec (f : Nat) : Int := by
  classical
  exact if h : ∃ z : Int, f = f16 z ∧ -1599999999984 ≤ z ∧ z ≤ 1599999999984 then Classical.choose h else 0

theorem zdec_f16 {z : Int} (h1 : -1599999999984 ≤ z) (h2 : z ≤ 1599999999984) : zdec (f16 z) = z := by
  have h : ∃ y : Int, f16 z = f16 y ∧ -1599999999984 ≤ y ∧ y ≤ 1599999999984 := ⟨z, rfl, h1, h2⟩
  unfold zdec
  rw [dif_pos h]
  obtain ⟨q1, q2, q3⟩ := Classical.choose_spec h
  exact (f16_inj (by omega) (by omega) (by omega) (by omega) q1).symm

/-- A value of the reference as the thin package has it. -/
def gI (x : Sc) : Iv := if x.k = 1 then ⟨1, f16 (six x), ⟨#[]⟩⟩ else if x.k = 2 then ⟨2, 0, x.t⟩ else if x.k = 3 then ⟨3, if x.n = 0 then 0 else 4607182418800017408, ⟨#[]⟩⟩ else if x.k = 4 then ⟨4, 0, x.t⟩ else ⟨x.k, 0, ⟨#[]⟩⟩

noncomputable def zfI (y : Iv) : Int := if y.k = 1 then zdec y.f else 0
noncomputable def zxI (y : Iv) : Int := if y.k = 1 then zdec y.f else if y.k = 3 then (if y.f = 0 then 0 else 16) else 0

set_option maxHeartbeats 400000 in
theorem of_unsure (w : World) : Calls Tryz.prog 21 #[unsure] w (Gives w (Iv.val ⟨6, 0, ⟨#[]⟩⟩)) := by
  go_enter Tryz.func21, Tryz.ntmps21
  go_wp2
  exact bodyPost_ret (v := Iv.val ⟨6, 0, ⟨#[]⟩⟩) (by simp [results, Tryz.results21, go_sem, *]) rfl ⟨rfl, (by repeat (first | with_reducible exact Below.refl _ _ | with_reducible assumption | ((with_reducible refine Below.setCell ?_ ?_ _); rotate_left; (simp; try omega)) | (with_reducible refine Ext.tr ?_ (by with_reducible assumption)) | (with_reducible refine Ext.al ?_ _) | (with_reducible refine below_drewN ?_ _) | (with_reducible refine Below.drew ?_)))⟩

set_option maxHeartbeats 400000 in
theorem of_empty (w : World) : Calls Tryz.prog 21 #[Sc.val ⟨0, 0, 0, ⟨#[]⟩⟩] w (Gives w (Iv.val ⟨0, 0, ⟨#[]⟩⟩)) := by
  go_enter Tryz.func21, Tryz.ntmps21
  go_wp2
  exact bodyPost_ret (v := Iv.val ⟨0, 0, ⟨#[]⟩⟩) (by simp [results, Tryz.results21, go_sem, *]) rfl ⟨rfl, (by repeat (first | with_reducible exact Below.refl _ _ | with_reducible assumption | ((with_reducible refine Below.setCell ?_ ?_ _); rotate_left; (simp; try omega)) | (with_reducible refine Ext.tr ?_ (by with_reducible assumption)) | (with_reducible refine Ext.al ?_ _) | (with_reducible refine below_drewN ?_ _) | (with_reducible refine Below.drew ?_)))⟩

theorem fx_nil : Fl.fx 0 0 = 0 := by decide
theorem fx_one : Fl.fx 0 1 = 4607182418800017408 := by decide +kernel

set_option maxHeartbeats 400000 in
theorem of_log0 (w : World) : Calls Tryz.prog 21 #[Sc.val ⟨3, 0, 0, ⟨#[]⟩⟩] w (Gives w (Iv.val ⟨3, 0, ⟨#[]⟩⟩)) := by
  go_enter Tryz.func21, Tryz.ntmps21
  go_wp2
  exact bodyPost_ret (v := Iv.val ⟨3, 0, ⟨#[]⟩⟩) (by simp [results, Tryz.results21, go_sem, *, fx_nil]) rfl ⟨rfl, (by repeat (first | with_reducible exact Below.refl _ _ | with_reducible assumption | ((with_reducible refine Below.setCell ?_ ?_ _); rotate_left; (simp; try omega)) | (with_reducible refine Ext.tr ?_ (by with_reducible assumption)) | (with_reducible refine Ext.al ?_ _) | (with_reducible refine below_drewN ?_ _) | (with_reducible refine Below.drew ?_)))⟩

set_option maxHeartbeats 400000 in
theorem of_log1 (w : World) : Calls Tryz.prog 21 #[Sc.val ⟨3, 1, 0, ⟨#[]⟩⟩] w (Gives w (Iv.val ⟨3, 4607182418800017408, ⟨#[]⟩⟩)) := by
  go_enter Tryz.func21, Tryz.ntmps21
  go_wp2
  exact bodyPost_ret (v := Iv.val ⟨3, 4607182418800017408, ⟨#[]⟩⟩) (by simp [results, Tryz.results21, go_sem, *, fx_one]) rfl ⟨rfl, (by repeat (first | with_reducible exact Below.refl _ _ | with_reducible assumption | ((with_reducible refine Below.setCell ?_ ?_ _); rotate_left; (simp; try omega)) | (with_reducible refine Ext.tr ?_ (by with_reducible assumption)) | (with_reducible refine Ext.al ?_ _) | (with_reducible refine below_drewN ?_ _) | (with_reducible refine Below.drew ?_)))⟩

theorem gI_num {x : Sc} (h : NumK x) : gI x = ⟨1, f16 (six x), ⟨#[]⟩⟩ := if_pos h.k

theorem of_item (x : Sc) (h : ItemSc x) (w : World) : Calls Tryz.prog 21 #[x.val] w (Gives w (gI x).val) := by
  rcases h with rfl | ⟨Z, ⟨h, ht, hZ⟩ | rfl⟩ | ⟨t, rfl⟩ | rfl | rfl | ⟨t, rfl⟩
  · exact of_empty w
  · rw [gI_num h]; exact of_numK x h ht w
  · exact of_unsure w
  · exact of_text t w
  · exact of_log0 w
  · exact of_log1 w
  · exact of_err t w

/-- What is sure of a cell: its value, and what it adds. -/
theorem item_cell (x : Sc) (h : ItemSc x) (h6 : x.k ≠ 6) : IvOk (gI x) ∧ Cz (gI x) (zfI (gI x)) ∧ zfI (gI x) = (if x.k = 1 then six x else 0) := by
  rcases h with rfl | ⟨Z, ⟨h, ht, hZ⟩ | rfl⟩ | ⟨t, rfl⟩ | rfl | rfl | ⟨t, rfl⟩
  · exact ⟨Or.inl rfl, rfl, rfl⟩
  · have hb := h.six_le
    have hd := zdec_f16 hb.1 hb.2
    rw [gI_num h, if_pos h.k]
    have e : zfI ⟨1, f16 (six x), ⟨#[]⟩⟩ = six x := by unfold zfI; rw [if_pos rfl]; exact hd
    rw [e]
    exact ⟨Or.inr (Or.inl ⟨_, rfl, tame_f16 (by omega) (by omega)⟩), ⟨rfl, hb⟩, rfl⟩
  · exact absurd rfl h6
  · exact ⟨Or.inr (Or.inr (Or.inl ⟨t, rfl⟩)), rfl, rfl⟩
  · exact ⟨Or.inr (Or.inr (Or.inr (Or.inl rfl))), rfl, rfl⟩
  · exact ⟨Or.inr (Or.inr (Or.inr (Or.inr (Or.inl rfl)))), rfl, rfl⟩
  · exact ⟨Or.inr (Or.inr (Or.inr (Or.inr (Or.inr ⟨t, rfl⟩)))), rfl, rfl⟩

/-- What is sure of a single value that members takes. -/
theorem item_single (x : Sc) (h : ItemSc x) (hk : (x.k == 1 || x.k == 3 || x.k == 4) = true) : SingOk (gI x) (zxI (gI x)) ∧ (x.k ≠ 4 → zxI (gI x) = six (ownOf x)) ∧ (x.k = 4 → gI x = ⟨4, 0, x.t⟩) ∧ (x.k ≠ 4 → (gI x).k ≠ 4) := by
  rcases h with rfl | ⟨Z, ⟨h, ht, hZ⟩ | rfl⟩ | ⟨t, rfl⟩ | rfl | rfl | ⟨t, rfl⟩
  · cases hk
  · have hb := h.six_le
    have hd := zdec_f16 hb.1 hb.2
    have ho : ownOf x = x := if_pos h.k
    rw [gI_num h, ho]
    have e : zxI ⟨1, f16 (six x), ⟨#[]⟩⟩ = six x := by unfold zxI; rw [if_pos rfl]; exact hd
    rw [e]
    exact ⟨Or.inl ⟨rfl, hb⟩, fun _ => rfl, ⟨fun h4 => absurd (h.k.symm.trans h4) (by decide), fun _ => (show (1 : Int) ≠ 4 by decide)⟩⟩
  · cases hk
  · cases hk
  · exact ⟨Or.inr (Or.inl ⟨rfl, rfl⟩), fun _ => rfl, (fun h4 => by cases h4), fun _ => by decide⟩
  · exact ⟨Or.inr (Or.inr (Or.inl ⟨rfl, rfl⟩)), fun _ => rfl, (fun h4 => by cases h4), fun _ => by decide⟩
  · exact ⟨Or.inr (Or.inr (Or.inr ⟨t, rfl, rfl⟩)), fun h4 => absurd rfl h4, fun _ => rfl, fun h4 => absurd rfl h4⟩

theorem sumI_cons {α : Type} (zf : α → Int) (x : α) (xs : List α) : sumI zf (x :: xs) = zf x + sumI zf xs := by
  rw [show x :: xs = [x] ++ xs from rfl, sumI_append, sumI_one]

theorem sumZ_cons (x : Sc) (xs : List Sc) : sumZ (x :: xs) = six x + sumZ xs := by
  rw [show x :: xs = [x] ++ xs from rfl, sumZ_append, sumZ_one]

theorem sum_cells (xs : List Sc) (h : ∀ x ∈ xs, ItemSc x ∧ x.k ≠ 6) : sumI zfI (xs.map gI) = sumZ (xs.filter fun x => x.k == 1) := by
  induction xs with
  | nil => rfl
  | cons x xs ih =>
    have hx := (item_cell x (h x (List.mem_cons_self ..)).1 (h x (List.mem_cons_self ..)).2).2.2
    rw [List.map_cons, sumI_cons, ih fun y hy => h y (List.mem_cons_of_mem _ hy), hx, List.filter_cons]
    by_cases hk : x.k = 1
    · rw [if_pos hk, if_pos (by simp [hk]), sumZ_cons]
    · rw [if_neg hk, if_neg (by simp [hk])]; omega

theorem sum_singles (xs : List Sc) (h : ∀ x ∈ xs, ItemSc x ∧ (x.k == 1 || x.k == 3 || x.k == 4) = true ∧ x.k ≠ 4) : sumI zxI (xs.map gI) = sumZ (xs.map ownOf) := by
  induction xs with
  | nil => rfl
  | cons x xs ih =>
    obtain ⟨h1, h2, h3⟩ := h x (List.mem_cons_self ..)
    have hx := (item_single x h1 h2).2.1 h3
    rw [List.map_cons, List.map_cons, sumI_cons, sumZ_cons, ih fun y hy => h y (List.mem_cons_of_mem _ hy), hx]

theorem badOf_law (m : Mc) (rows : List (List Sc)) (xs : List Sc) : badOf (lawArgs m rows xs) = xs.find? fun x => decide (x.k = 4) := by
  unfold badOf
  rw [List.findSome?_cons]
  show (List.map (fun x : Sc => (x.mc, Vt.sc x)) xs).findSome? (fun y => badArg y.2) = _
  induction xs with
  | nil => rfl
  | cons x xs ih =>
    rw [List.map_cons, List.findSome?_cons, List.find?_cons, ih]
    by_cases h : x.k = 4
    · rw [show badArg (x.mc, Vt.sc x).2 = some x from if_pos h, decide_eq_true h]
    · rw [show badArg (x.mc, Vt.sc x).2 = none from if_neg h, decide_eq_false h]

theorem outsOf_law (m : Mc) (rows : List (List Sc)) (xs : List Sc) : outsOf (lawArgs m rows xs) = (rows.flatten.filter fun x => x.k == 1) ++ xs.map ownOf := by
  unfold outsOf
  rw [List.flatMap_cons, List.flatMap_map]
  congr 1
  induction xs with
  | nil => rfl
  | cons x xs ih => rw [List.flatMap_cons, List.map_cons, ih]; rfl

theorem flatOf_law (m : Mc) (rows : List (List Sc)) (xs : List Sc) : flatOf (lawArgs m rows xs) = rows.flatten ++ xs := by
  unfold flatOf
  rw [List.flatMap_cons, List.flatMap_map]
  congr 1
  induction xs with
  | nil => rfl
  | cons x xs ih => rw [List.flatMap_cons, ih]; rfl
end Go.Proofs.YtgdilpecibjidaaGreatDoor
