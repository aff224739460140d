/-
  greatest; the reference's MAX.
-/
import Derived.Test.YtbehdafigmlnfaaGreatDoorSo
import Derived.Test.YtbehdafigmlnfaaGreatDoorFg
namespace Go.Proofs.YtbehdafigmlnfaaGreatDoor
set_option linter.unusedSimpArgs false
set_option linter.unusedVariables false
open Go Go.RowKit
set_option maxRecDepth 100000

/-- The greatest one of values, or 0 of none. -/
def MaxP (xs : List Sc) (x : Sc) : Prop := (xs = [] ∧ x = ⟨1, 0, 1, ⟨#[]⟩⟩) ∨ (x ∈ xs ∧ ∀ y ∈ xs, six y ≤ six x)

theorem Ord.last {zs : List Sc} (h : Ord zs) {n : Nat} {x : Sc} (hn : zs.length = n + 1) (hx : zs[n]? = some x) : ∀ y ∈ zs, six y ≤ six x := by
  intro y hy
  obtain ⟨i, hi⟩ := List.getElem?_of_mem hy
  have hil : i < zs.length := by
    apply Classical.byContradiction
    intro hc
    rw [List.getElem?_eq_none (by omega)] at hi
    cases hi
  rw [List.getElem?_eq_getElem hil] at hi
  rw [List.getElem?_eq_getElem (by omega)] at hx
  have e1 := Option.some.inj hi
  have e2 := Option.some.inj hx
  by_cases hin : i = n
  · subst hin
    rw [← e1, ← e2]; exact Int.le_refl _
  · have := List.pairwise_iff_getElem.1 h i n hil (by omega) (by omega)
    rw [e1, e2] at this
    exact this

set_option maxHeartbeats 800000 in
theorem greatest_nil (a : Option Addr) (c : Nat) (w : World) : Calls Tryz.prog 56 #[.slice a 0 c] w (Gives w (number 0 1)) := by
  go_enter Tryz.func56, Tryz.ntmps56
  (go_wp2_with fail; refine (int_ok 0 _ (by omega) (by omega)).mono ?_; rintro e w1 ⟨rfl, hb1⟩; obtain ⟨hc1, hf1, hz1⟩ := ext_facts hb1; (try simp at hz1); (have hq1_0 : w.heap.size < w1.heap.size := by omega); (have hl1_0 : w.heap.size ≤ w1.heap.size := by omega); (have hr1_0 := fun o => hc1 (w.heap.size) o (by first | omega | (simp; done) | (simp; omega))); (have hs1_0 := fun o => hf1 (w.heap.size) o (by first | omega | (simp; done) | (simp; omega))); (try simp (disch := first | omega | (simp; omega)) only [World.cell?_alloc_past, World.cell?_drew] at hr1_0); (try simp (disch := first | omega | (simp; omega)) only [World.frozen?_alloc_past, World.frozen?_drew] at hs1_0); clear hc1 hf1)
  go_wp2
  exact bodyPost_ret (v := number 0 1) (by simp [results, Tryz.results56, go_sem, *]) rfl ⟨rfl, (by repeat (first | with_reducible exact Below.refl _ _ | with_reducible assumption | ((with_reducible refine Below.setCell ?_ ?_ _); rotate_left; (simp; try omega)) | (with_reducible refine Ext.tr ?_ (by with_reducible assumption)) | (with_reducible refine Ext.al ?_ _) | (with_reducible refine below_drewN ?_ _) | (with_reducible refine Below.drew ?_)))⟩

set_option maxHeartbeats 1600000 in
theorem greatest_own (xs : List Sc) (B : Nat) (v : Value) (w : World) (hl : xs.length ≤ 1000000000) (hx : Owns w B v xs) (hk : ∀ x ∈ xs, NumK x) :
    Calls Tryz.prog 56 #[v] w fun e w' => ∃ x : Sc, e = .returned x.val ∧ MaxP xs x ∧ Ext w w' := by
  by_cases hne : xs = []
  · subst hne
    have key : ∃ a c, v = .slice a 0 c := by
      obtain ⟨_, ⟨h, _⟩ | ⟨g, cap, cur, h, _⟩⟩ := hx
      · exact ⟨none, 0, h⟩
      · exact ⟨_, _, h⟩
    obtain ⟨a, c, rfl⟩ := key
    exact (greatest_nil a c w).mono fun e w' ⟨h1, h2⟩ => ⟨⟨1, 0, 1, ⟨#[]⟩⟩, h1, Or.inl ⟨rfl, rfl⟩, h2⟩
  · obtain ⟨g, cap, rfl, _, hlie⟩ := hx.lie hne
    obtain ⟨n, hn⟩ : ∃ n, xs.length = n + 1 := ⟨xs.length - 1, by have := List.length_pos_iff.2 hne; omega⟩
    have HS := Lib.hid (fun (w' : World) (hw : Ext w w') => sorted_ok xs g cap w' hl (hlie.ext hw) hk)
    rw [hn] at HS ⊢
    have hi1 : ¬ (((n + 1 : Nat) : Int) = 0) := by omega
    have hi2 : IntKind.i64.wrap (((n + 1 : Nat) : Int) - 1) = (n : Int) := by rw [wrap_id (by omega) (by omega)]; omega
    clear hx hk hlie hne
    go_enter Tryz.func56, Tryz.ntmps56
    go_wp2_with fail
    refine (HS.out _ (by repeat (first | with_reducible exact Below.refl _ _ | with_reducible assumption | ((with_reducible refine Below.setCell ?_ ?_ _); rotate_left; (simp; try omega)) | (with_reducible refine Ext.tr ?_ (by with_reducible assumption)) | (with_reducible refine Ext.al ?_ _) | (with_reducible refine below_drewN ?_ _) | (with_reducible refine Below.drew ?_)))).mono ?_
    rintro e w1 ⟨v, zs, rfl, hown, hperm, hord, hb1⟩
    (obtain ⟨hc1, hf1, hz1⟩ := ext_facts hb1; (try simp at hz1); (have hq1_0 : w.heap.size < w1.heap.size := by omega); (have hl1_0 : w.heap.size ≤ w1.heap.size := by omega); (have hr1_0 := fun o => hc1 (w.heap.size) o (by first | omega | (simp; done) | (simp; omega))); (have hs1_0 := fun o => hf1 (w.heap.size) o (by first | omega | (simp; done) | (simp; omega))); (try simp (disch := first | omega | (simp; omega)) only [World.cell?_alloc_past, World.cell?_drew] at hr1_0); (try simp (disch := first | omega | (simp; omega)) only [World.frozen?_alloc_past, World.frozen?_drew] at hs1_0); clear hc1 hf1)
    have hzl : zs.length = n + 1 := by rw [hperm.length_eq]; exact hn
    rcases hown.form with ⟨rfl, _⟩ | ⟨g1, cap1, rfl, hc1, hg1, hg2, hlie1⟩
    · simp at hzl
    obtain ⟨x, Hx⟩ := elem_at (show n < zs.length by omega)
    obtain ⟨c0, c1, c2, c3, c4⟩ := hlie1.head Hx.out
    have hmax : MaxP xs x := Or.inr ⟨hperm.mem_iff.1 (mem_at Hx), fun y hy => hord.last hzl Hx.out y (hperm.mem_iff.2 hy)⟩
    have HM := Lib.hid hmax
    rw [hzl]
    rw [hzl] at hc1
    clear hown hperm hord hmax hlie1
    obtain ⟨xk, xn, xd, xt⟩ := x
    go_wp2
    exact bodyPost_ret (v := Sc.val ⟨xk, xn, xd, xt⟩) (by simp [results, Tryz.results56, go_sem, *]) rfl ⟨⟨xk, xn, xd, xt⟩, rfl, HM.out, (by repeat (first | with_reducible exact Below.refl _ _ | with_reducible assumption | ((with_reducible refine Below.setCell ?_ ?_ _); rotate_left; (simp; try omega)) | (with_reducible refine Ext.tr ?_ (by with_reducible assumption)) | (with_reducible refine Ext.al ?_ _) | (with_reducible refine below_drewN ?_ _) | (with_reducible refine Below.drew ?_)))⟩

set_option maxHeartbeats 800000 in
/-- MAX of the reference. -/
theorem stat_max (ys : List (Mc × Vt Sc)) (b o c : Nat) (w : World) (hl : ys.length ≤ 1000000) (hne : ys ≠ []) (hc : ys.length ≤ c) (hx : ArgsIn w b o ys)
    (h3 : ∀ y ∈ ys, ∀ x, y.2 = .sc x → x.k = 3 → x.n = 0 ∨ x.n = 1) (hN : ∀ y ∈ ys, (outArg y.2).length ≤ 1000)
    (hk : (ys.all fun y => okArg y.2) = true → badOf ys = none → ∀ x ∈ outsOf ys, NumK x ∧ x.t = ⟨#[]⟩) :
    Calls Tryz.prog 34 #[.string ⟨#[77, 65, 88]⟩, .slice (some ⟨b, o, none⟩) ys.length c] w fun e w' => ∃ x : Sc, e = .returned (.tuple #[x.val, .bool true]) ∧ FoldP ys (MaxP (outsOf ys)) x ∧ Ext w w' := by
  have hlen : (outsOf ys).length ≤ 1000000000 := by
    have h := outsOf_len ys.length hN
    rw [List.take_length] at h
    omega
  have HF := Lib.hid (fun w' (hw : Ext w w') => fold_ok 56 (fun args w => Tryz.call56 args w) (MaxP (outsOf ys)) ys b o c w' hl hne hc (hx.ext hw) h3 hN fun w2 B v hv h1 h2 => greatest_own _ B v w2 hlen hv (fun x hx => (hk h1 h2 x hx).1))
  clear hk h3 hN hx hne
  go_enter Tryz.func34, Tryz.ntmps34
  go_wp2_with fail
  refine (HF.out _ (by repeat (first | with_reducible exact Below.refl _ _ | with_reducible assumption | ((with_reducible refine Below.setCell ?_ ?_ _); rotate_left; (simp; try omega)) | (with_reducible refine Ext.tr ?_ (by with_reducible assumption)) | (with_reducible refine Ext.al ?_ _) | (with_reducible refine below_drewN ?_ _) | (with_reducible refine Below.drew ?_)))).mono ?_
  rintro e w1 ⟨x, rfl, hfx, hb1⟩
  have HX := Lib.hid hfx; clear hfx
  (obtain ⟨hc1, hf1, hz1⟩ := ext_facts hb1; (try simp at hz1); (have hq1_0 : w.heap.size < w1.heap.size := by omega); (have hl1_0 : w.heap.size ≤ w1.heap.size := by omega); (have hr1_0 := fun o => hc1 (w.heap.size) o (by first | omega | (simp; done) | (simp; omega))); (have hs1_0 := fun o => hf1 (w.heap.size) o (by first | omega | (simp; done) | (simp; omega))); (try simp (disch := first | omega | (simp; omega)) only [World.cell?_alloc_past, World.cell?_drew] at hr1_0); (try simp (disch := first | omega | (simp; omega)) only [World.frozen?_alloc_past, World.frozen?_drew] at hs1_0); clear hc1 hf1)
  obtain ⟨xk, xn, xd, xt⟩ := x
  go_wp2
  exact bodyPost_ret (v := .tuple #[Sc.val ⟨xk, xn, xd, xt⟩, .bool true]) (by simp [results, Tryz.results34, go_sem, *]) rfl ⟨⟨xk, xn, xd, xt⟩, rfl, HX.out, (by repeat (first | with_reducible exact Below.refl _ _ | with_reducible assumption | ((with_reducible refine Below.setCell ?_ ?_ _); rotate_left; (simp; try omega)) | (with_reducible refine Ext.tr ?_ (by with_reducible assumption)) | (with_reducible refine Ext.al ?_ _) | (with_reducible refine below_drewN ?_ _) | (with_reducible refine Below.drew ?_)))⟩

set_option maxHeartbeats 800000 in
theorem fitsNumbers_MAX (n d : Int) (t : ByteArray) (a : Option Addr) (r rc : Nat) (b o l c : Nat) (w : World) (hl : 0 < l) (hx : At5m w b o ⟨5, n, d, t, a, r, rc⟩) :
    Calls Tryz.prog 48 #[.string ⟨#[77, 65, 88]⟩, .slice (some ⟨b, o, none⟩) l c] w (Gives w (.tuple #[.bool false, .bool false])) := by
  have HC := Lib.hid (every_mat n d t a r rc b o l c w hl hx)
  go_enter Tryz.func48, Tryz.ntmps48
  go_wp2_with fail
  refine HC.out.mono ?_
  rintro e w1 ⟨rfl, hb⟩
  go_wp2
  go_ret2
  exact ⟨rfl, hb⟩

set_option maxHeartbeats 800000 in
theorem fitsTexts_MAX (a : Option Addr) (n c : Nat) (w : World) : Calls Tryz.prog 49 #[.string ⟨#[77, 65, 88]⟩, .slice a n c] w (Gives w (.tuple #[.bool false, .bool false])) := by
  go_enter Tryz.func49, Tryz.ntmps49
  go_wp2
  go_ret2
  exact ⟨rfl, (by repeat (first | with_reducible exact Below.refl _ _ | with_reducible assumption | ((with_reducible refine Below.setCell ?_ ?_ _); rotate_left; (simp; try omega)) | (with_reducible refine Ext.tr ?_ (by with_reducible assumption)) | (with_reducible refine Ext.al ?_ _) | (with_reducible refine below_drewN ?_ _) | (with_reducible refine Below.drew ?_)))⟩

set_option maxHeartbeats 800000 in
theorem fitsChoices_MAX (a : Option Addr) (n c : Nat) (w : World) : Calls Tryz.prog 50 #[.string ⟨#[77, 65, 88]⟩, .slice a n c] w (Gives w (.tuple #[.bool false, .bool false])) := by
  go_enter Tryz.func50, Tryz.ntmps50
  go_wp2
  go_ret2
  exact ⟨rfl, (by repeat (first | with_reducible exact Below.refl _ _ | with_reducible assumption | ((with_reducible refine Below.setCell ?_ ?_ _); rotate_left; (simp; try omega)) | (with_reducible refine Ext.tr ?_ (by with_reducible assumption)) | (with_reducible refine Ext.al ?_ _) | (with_reducible refine below_drewN ?_ _) | (with_reducible refine Below.drew ?_)))⟩

set_option maxHeartbeats 400000 in
theorem others_MAX (w : World) : Calls Tryz.prog 51 #[.string ⟨#[77, 65, 88]⟩] w (Gives w (.bool true)) := by
  go_enter Tryz.func51, Tryz.ntmps51
  go_wp2
  go_ret
  exact ⟨rfl, (by repeat (first | with_reducible exact Below.refl _ _ | with_reducible assumption | ((with_reducible refine Below.setCell ?_ ?_ _); rotate_left; (simp; try omega)) | (with_reducible refine Ext.tr ?_ (by with_reducible assumption)) | (with_reducible refine Ext.al ?_ _) | (with_reducible refine below_drewN ?_ _) | (with_reducible refine Below.drew ?_)))⟩
end Go.Proofs.YtbehdafigmlnfaaGreatDoor
