/-
  What a law of a range and of single values needs on both sides.
-/
import Derived.Test.YtpcfmkongpmmmaaGreatDoorTl
import Derived.Test.YtpcfmkongpmmmaaGreatDoorFg
import Derived.Test.YtpcfmkongpmmmaaGreatDoorWi
namespace Go.Proofs.YtpcfmkongpmmmaaGreatDoor
set_option linter.unusedSimpArgs false
set_option linter.unusedVariables false
open Go Go.RowKit
set_option maxRecDepth 100000

/-- The cells of a value in a row. -/
theorem fa_cells {w : World} {g : Nat} {xs : List Iv} (h : GLie innerL 10 w g 0 xs) {i : Nat} {x : Iv} (hx : xs[i]? = some x) {f : Nat} {s : ByteArray} {b : Bool} {m : ByteArray} {k : Int}
    (he : innerC x = #[.string ⟨#[]⟩, .float .f64 f, .string s, .slice none 0 0, .slice none 0 0, .bool b, .string m, .int .u8 k, .pointer none, .pointer none]) :
    w.cell? ⟨g, i * 10, none⟩ = some (.string ⟨#[]⟩) ∧ w.cell? ⟨g, i * 10 + 1, none⟩ = some (.float .f64 f) ∧ w.cell? ⟨g, i * 10 + 2, none⟩ = some (.string s) ∧ w.cell? ⟨g, i * 10 + 3, none⟩ = some (.slice none 0 0) ∧
    w.cell? ⟨g, i * 10 + 4, none⟩ = some (.slice none 0 0) ∧ w.cell? ⟨g, i * 10 + 5, none⟩ = some (.bool b) ∧ w.cell? ⟨g, i * 10 + 6, none⟩ = some (.string m) ∧ w.cell? ⟨g, i * 10 + 7, none⟩ = some (.int .u8 k) ∧
    w.cell? ⟨g, i * 10 + 8, none⟩ = some (.pointer none) ∧ w.cell? ⟨g, i * 10 + 9, none⟩ = some (.pointer none) := by
  have key : ∀ j u, (innerL x)[j]? = some u → w.cell? ⟨g, i * 10 + j, none⟩ = some u := fun j u hu => by
    have := h i x hx j u hu
    rwa [Nat.zero_add] at this
  unfold innerL at key
  rw [he] at key
  exact ⟨key 0 _ rfl, key 1 _ rfl, key 2 _ rfl, key 3 _ rfl, key 4 _ rfl, key 5 _ rfl, key 6 _ rfl, key 7 _ rfl, key 8 _ rfl, key 9 _ rfl⟩

/-- A single value that SUM takes: a number of z sixteenths, a truth, or an error. -/
def SingOk (x : Iv) (z : Int) : Prop :=
  (x = ⟨1, f16 z, ⟨#[]⟩⟩ ∧ -1599999999984 ≤ z ∧ z ≤ 1599999999984) ∨ (x = ⟨3, 0, ⟨#[]⟩⟩ ∧ z = 0) ∨ (x = ⟨3, 4607182418800017408, ⟨#[]⟩⟩ ∧ z = 16) ∨ (∃ t, x = ⟨4, 0, t⟩ ∧ z = 0)

/-- What SUM says: the first error, or the sum. -/
def sumRes (xs : List Iv) (T : Int) : Iv := match xs.find? (fun x => x.k == 4) with
  | some e => e
  | none => ⟨1, f16 T, ⟨#[]⟩⟩

theorem FArgs.es {w : World} {b B : Nat} {es : List (Nat × Value)} {ps : List (Array Value × Vt Iv)} (h : FArgs w b B es ps) : ArgsEs w b es (ps.map Prod.fst) := ⟨h.1, by rw [h.2.1, List.map_map]; rfl⟩

theorem sumRes_cases (xs : List Iv) (zx : Iv → Int) (T : Int) (h : ∀ x ∈ xs, SingOk x (zx x)) : (∃ t, sumRes xs T = ⟨4, 0, t⟩) ∨ sumRes xs T = ⟨1, f16 T, ⟨#[]⟩⟩ := by
  unfold sumRes
  cases hf : xs.find? (fun x => x.k == 4) with
  | none => exact Or.inr rfl
  | some e =>
    have hk := List.find?_some hf
    have hm := List.mem_of_find?_eq_some hf
    have he := h e hm
    generalize zx e = z at he
    rcases he with ⟨rfl, _⟩ | ⟨rfl, _⟩ | ⟨rfl, _⟩ | ⟨t, rfl, _⟩
    · simp at hk
    · simp at hk
    · simp at hk
    · exact Or.inl ⟨t, rfl⟩

theorem door_res (xs : List Iv) (zx : Iv → Int) (T : Int) (h : ∀ x ∈ xs, SingOk x (zx x)) (w : World) : Calls Tryz.prog 24 #[.agg (innerC (sumRes xs T))] w (Gives w (sumRes xs T).val) := by
  rcases sumRes_cases xs zx T h with ⟨t, e⟩ | e
  · rw [e]; exact doorArg_err t t w
  · rw [e]; exact doorArg_num _ w

theorem f16_inj {a b : Int} (h1 : -2 ^ 53 < a) (h2 : a < 2 ^ 53) (h3 : -2 ^ 53 < b) (h4 : b < 2 ^ 53) (h : f16 a = f16 b) : a = b := by
  have e1 := order_f16 h1 h2 h3 h4
  have e2 := order_f16 h3 h4 h3 h4
  rw [h, e2, cmp_eq rfl] at e1
  have e3 := Option.some.inj e1
  rcases Int.lt_trichotomy a b with hl | he | hg
  · rw [cmp_lt hl] at e3; cases e3
  · exact he
  · rw [cmp_gt hg] at e3; cases e3

/-- The sixteenths of a word. -/
noncomputable def zdec (f : Nat) : Int := by
  classical
  exact if h : ∃ z : Int, f = f16 z ∧ -1599999999984 ≤ z ∧ z ≤ 1599999999984 then Classical.choose h else 0

theorem zdec_f16 {z : Int} (h1 : -1599999999984 ≤ z) (h2 : z ≤ 1599999999984) : zdec (f16 z) = z := by
  have h : ∃ y : Int, f16 z = f16 y ∧ -1599999999984 ≤ y ∧ y ≤ 1599999999984 := ⟨z, rfl, h1, h2⟩
  unfold zdec
  rw [dif_pos h]
  obtain ⟨q1, q2, q3⟩ := Classical.choose_spec h
  exact (f16_inj (by omega) (by omega) (by omega) (by omega) q1).symm

/-- A value of the reference as the thin package has it. -/
def gI (x : Sc) : Iv := if x.k = 1 then ⟨1, f16 (six x), ⟨#[]⟩⟩ else if x.k = 2 then ⟨2, 0, x.t⟩ else if x.k = 3 then ⟨3, if x.n = 0 then 0 else 4607182418800017408, ⟨#[]⟩⟩ else if x.k = 4 then ⟨4, 0, x.t⟩ else ⟨x.k, 0, ⟨#[]⟩⟩

set_option maxHeartbeats 400000 in
theorem of_unsure (w : World) : Calls Tryz.prog 23 #[unsure] w (Gives w (Iv.val ⟨6, 0, ⟨#[]⟩⟩)) := by
  go_enter Tryz.func23, Tryz.ntmps23
  go_wp2
  exact bodyPost_ret (v := Iv.val ⟨6, 0, ⟨#[]⟩⟩) (by simp [results, Tryz.results23, go_sem, *]) rfl ⟨rfl, (by repeat (first | with_reducible exact Below.refl _ _ | with_reducible assumption | ((with_reducible refine Below.setCell ?_ ?_ _); rotate_left; (simp; try omega)) | (with_reducible refine Ext.tr ?_ (by with_reducible assumption)) | (with_reducible refine Ext.al ?_ _) | (with_reducible refine below_drewN ?_ _) | (with_reducible refine Below.drew ?_)))⟩

set_option maxHeartbeats 400000 in
theorem of_empty (w : World) : Calls Tryz.prog 23 #[Sc.val ⟨0, 0, 0, ⟨#[]⟩⟩] w (Gives w (Iv.val ⟨0, 0, ⟨#[]⟩⟩)) := by
  go_enter Tryz.func23, Tryz.ntmps23
  go_wp2
  exact bodyPost_ret (v := Iv.val ⟨0, 0, ⟨#[]⟩⟩) (by simp [results, Tryz.results23, go_sem, *]) rfl ⟨rfl, (by repeat (first | with_reducible exact Below.refl _ _ | with_reducible assumption | ((with_reducible refine Below.setCell ?_ ?_ _); rotate_left; (simp; try omega)) | (with_reducible refine Ext.tr ?_ (by with_reducible assumption)) | (with_reducible refine Ext.al ?_ _) | (with_reducible refine below_drewN ?_ _) | (with_reducible refine Below.drew ?_)))⟩

theorem fx_nil : Fl.fx 0 0 = 0 := by decide

theorem fx_one : Fl.fx 0 1 = 4607182418800017408 := by decide +kernel

set_option maxHeartbeats 400000 in
theorem of_log0 (w : World) : Calls Tryz.prog 23 #[Sc.val ⟨3, 0, 0, ⟨#[]⟩⟩] w (Gives w (Iv.val ⟨3, 0, ⟨#[]⟩⟩)) := by
  go_enter Tryz.func23, Tryz.ntmps23
  go_wp2
  exact bodyPost_ret (v := Iv.val ⟨3, 0, ⟨#[]⟩⟩) (by simp [results, Tryz.results23, go_sem, *, fx_nil]) rfl ⟨rfl, (by repeat (first | with_reducible exact Below.refl _ _ | with_reducible assumption | ((with_reducible refine Below.setCell ?_ ?_ _); rotate_left; (simp; try omega)) | (with_reducible refine Ext.tr ?_ (by with_reducible assumption)) | (with_reducible refine Ext.al ?_ _) | (with_reducible refine below_drewN ?_ _) | (with_reducible refine Below.drew ?_)))⟩

set_option maxHeartbeats 400000 in
theorem of_log1 (w : World) : Calls Tryz.prog 23 #[Sc.val ⟨3, 1, 0, ⟨#[]⟩⟩] w (Gives w (Iv.val ⟨3, 4607182418800017408, ⟨#[]⟩⟩)) := by
  go_enter Tryz.func23, Tryz.ntmps23
  go_wp2
  exact bodyPost_ret (v := Iv.val ⟨3, 4607182418800017408, ⟨#[]⟩⟩) (by simp [results, Tryz.results23, go_sem, *, fx_one]) rfl ⟨rfl, (by repeat (first | with_reducible exact Below.refl _ _ | with_reducible assumption | ((with_reducible refine Below.setCell ?_ ?_ _); rotate_left; (simp; try omega)) | (with_reducible refine Ext.tr ?_ (by with_reducible assumption)) | (with_reducible refine Ext.al ?_ _) | (with_reducible refine below_drewN ?_ _) | (with_reducible refine Below.drew ?_)))⟩

theorem gI_num {x : Sc} (h : NumK x) : gI x = ⟨1, f16 (six x), ⟨#[]⟩⟩ := if_pos h.k

theorem of_item (x : Sc) (h : ItemSc x) (w : World) : Calls Tryz.prog 23 #[x.val] w (Gives w (gI x).val) := by
  rcases h with rfl | ⟨Z, ⟨h, ht, hZ⟩ | rfl⟩ | ⟨t, rfl⟩ | rfl | rfl | ⟨t, rfl⟩
  · exact of_empty w
  · rw [gI_num h]; exact of_numK x h ht w
  · exact of_unsure w
  · exact of_text t w
  · exact of_log0 w
  · exact of_log1 w
  · exact of_err t w

theorem badOf_law (m : Mc) (rows : List (List Sc)) (xs : List Sc) : badOf (lawArgs m rows xs) = xs.find? fun x => decide (x.k = 4) := by
  unfold badOf
  rw [List.findSome?_cons]
  show (List.map (fun x : Sc => (x.mc, Vt.sc x)) xs).findSome? (fun y => badArg y.2) = _
  induction xs with
  | nil => rfl
  | cons x xs ih =>
    rw [List.map_cons, List.findSome?_cons, List.find?_cons, ih]
    by_cases h : x.k = 4
    · rw [show badArg (x.mc, Vt.sc x).2 = some x from if_pos h, decide_eq_true h]
    · rw [show badArg (x.mc, Vt.sc x).2 = none from if_neg h, decide_eq_false h]

theorem outsOf_law (m : Mc) (rows : List (List Sc)) (xs : List Sc) : outsOf (lawArgs m rows xs) = (rows.flatten.filter fun x => x.k == 1) ++ xs.map ownOf := by
  unfold outsOf
  rw [List.flatMap_cons, List.flatMap_map]
  congr 1
  induction xs with
  | nil => rfl
  | cons x xs ih => rw [List.flatMap_cons, List.map_cons, ih]; rfl

theorem flatOf_law (m : Mc) (rows : List (List Sc)) (xs : List Sc) : flatOf (lawArgs m rows xs) = rows.flatten ++ xs := by
  unfold flatOf
  rw [List.flatMap_cons, List.flatMap_map]
  congr 1
  induction xs with
  | nil => rfl
  | cons x xs ih => rw [List.flatMap_cons, ih]; rfl

theorem TabOk.flat {rows : List (List Sc)} (h : TabOk rows) : rows.flatten ≠ [] ∧ rows.flatten.length ≤ 720 ∧ ∀ x ∈ rows.flatten, ItemSc x := by
  obtain ⟨C, h1, h2, h3, h4, h5, h6⟩ := h
  refine ⟨?_, ?_, ?_⟩
  · intro h0
    have := rows_le_flatten (rows := rows) (fun row hr he => by have := h5 row hr; rw [he] at this; simp at this; omega)
    rw [h0] at this
    exact h3 (List.eq_nil_of_length_eq_zero (by simpa using this))
  · have := flatten_le (rows := rows) (c := 6) (fun row hr => by rw [h5 row hr]; exact h2)
    omega
  · intro x hx
    obtain ⟨row, hr, hxr⟩ := List.mem_flatten.1 hx
    exact h6 row hr x hxr
end Go.Proofs.YtpcfmkongpmmmaaGreatDoor
