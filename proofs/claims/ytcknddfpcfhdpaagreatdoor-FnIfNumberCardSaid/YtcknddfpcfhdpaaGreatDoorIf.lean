/-
  IF: for which arguments the reference says anything.
-/
import Derived.Test.YtcknddfpcfhdpaaGreatDoorBitor
namespace Go.Proofs.YtcknddfpcfhdpaaGreatDoor
set_option linter.unusedSimpArgs false
set_option linter.unusedVariables false
open Go Go.RowKit
set_option maxRecDepth 100000

set_option maxHeartbeats 800000 in
theorem Stat_IF (a : Option Addr) (n c : Nat) (w : World) : Calls Tryz.prog 25 #[.string ⟨#[73, 70]⟩, .slice a n c] w (Gives w (.tuple #[zeroVal, .bool false])) := by
  go_enter Tryz.func25, Tryz.ntmps25
  go_wp2
  exact bodyPost_ret (v := .tuple #[zeroVal, .bool false]) (by simp [results, Tryz.results25, go_sem, *]) rfl ⟨rfl, (by repeat (first | with_reducible exact Below.refl _ _ | with_reducible assumption | ((with_reducible refine Below.setCell ?_ ?_ _); rotate_left; (simp; try omega)) | (with_reducible refine Ext.tr ?_ (by with_reducible assumption)) | (with_reducible refine Ext.al ?_ _) | (with_reducible refine below_drewN ?_ _) | (with_reducible refine Below.drew ?_)))⟩

set_option maxHeartbeats 800000 in
theorem Criteria_IF (a : Option Addr) (n c : Nat) (w : World) : Calls Tryz.prog 26 #[.string ⟨#[73, 70]⟩, .slice a n c] w (Gives w (.tuple #[zeroVal, .bool false])) := by
  go_enter Tryz.func26, Tryz.ntmps26
  go_wp2
  exact bodyPost_ret (v := .tuple #[zeroVal, .bool false]) (by simp [results, Tryz.results26, go_sem, *]) rfl ⟨rfl, (by repeat (first | with_reducible exact Below.refl _ _ | with_reducible assumption | ((with_reducible refine Below.setCell ?_ ?_ _); rotate_left; (simp; try omega)) | (with_reducible refine Ext.tr ?_ (by with_reducible assumption)) | (with_reducible refine Ext.al ?_ _) | (with_reducible refine below_drewN ?_ _) | (with_reducible refine Below.drew ?_)))⟩

set_option maxHeartbeats 800000 in
theorem Lookup_IF (a : Option Addr) (n c : Nat) (w : World) : Calls Tryz.prog 27 #[.string ⟨#[73, 70]⟩, .slice a n c] w (Gives w (.tuple #[zeroVal, .bool false])) := by
  go_enter Tryz.func27, Tryz.ntmps27
  go_wp2
  exact bodyPost_ret (v := .tuple #[zeroVal, .bool false]) (by simp [results, Tryz.results27, go_sem, *]) rfl ⟨rfl, (by repeat (first | with_reducible exact Below.refl _ _ | with_reducible assumption | ((with_reducible refine Below.setCell ?_ ?_ _); rotate_left; (simp; try omega)) | (with_reducible refine Ext.tr ?_ (by with_reducible assumption)) | (with_reducible refine Ext.al ?_ _) | (with_reducible refine below_drewN ?_ _) | (with_reducible refine Below.drew ?_)))⟩

set_option maxHeartbeats 800000 in
theorem CallMath_IF (a : Option Addr) (n c : Nat) (w : World) : Calls Tryz.prog 28 #[.string ⟨#[73, 70]⟩, .slice a n c] w (Gives w (.tuple #[zeroVal, .bool false])) := by
  go_enter Tryz.func28, Tryz.ntmps28
  go_wp2
  exact bodyPost_ret (v := .tuple #[zeroVal, .bool false]) (by simp [results, Tryz.results28, go_sem, *]) rfl ⟨rfl, (by repeat (first | with_reducible exact Below.refl _ _ | with_reducible assumption | ((with_reducible refine Below.setCell ?_ ?_ _); rotate_left; (simp; try omega)) | (with_reducible refine Ext.tr ?_ (by with_reducible assumption)) | (with_reducible refine Ext.al ?_ _) | (with_reducible refine below_drewN ?_ _) | (with_reducible refine Below.drew ?_)))⟩

set_option maxHeartbeats 800000 in
theorem CallText_IF (a : Option Addr) (n c : Nat) (w : World) : Calls Tryz.prog 29 #[.string ⟨#[73, 70]⟩, .slice a n c] w (Gives w (.tuple #[zeroVal, .bool false])) := by
  go_enter Tryz.func29, Tryz.ntmps29
  go_wp2
  exact bodyPost_ret (v := .tuple #[zeroVal, .bool false]) (by simp [results, Tryz.results29, go_sem, *]) rfl ⟨rfl, (by repeat (first | with_reducible exact Below.refl _ _ | with_reducible assumption | ((with_reducible refine Below.setCell ?_ ?_ _); rotate_left; (simp; try omega)) | (with_reducible refine Ext.tr ?_ (by with_reducible assumption)) | (with_reducible refine Ext.al ?_ _) | (with_reducible refine below_drewN ?_ _) | (with_reducible refine Below.drew ?_)))⟩

set_option maxHeartbeats 800000 in
theorem fitsTexts_IF (a : Option Addr) (n c : Nat) (w : World) : Calls Tryz.prog 48 #[.string ⟨#[73, 70]⟩, .slice a n c] w (Gives w (.tuple #[.bool false, .bool false])) := by
  go_enter Tryz.func48, Tryz.ntmps48
  go_wp2
  go_ret2
  exact ⟨rfl, (by repeat (first | with_reducible exact Below.refl _ _ | with_reducible assumption | ((with_reducible refine Below.setCell ?_ ?_ _); rotate_left; (simp; try omega)) | (with_reducible refine Ext.tr ?_ (by with_reducible assumption)) | (with_reducible refine Ext.al ?_ _) | (with_reducible refine below_drewN ?_ _) | (with_reducible refine Below.drew ?_)))⟩

set_option maxHeartbeats 400000 in
theorem given_wh (x : Sc) (w : World) (h : Wh x) : Calls Tryz.prog 142 #[x.val] w (Gives w (.bool (numericOf x))) := by
  rcases h with ⟨n, rfl, h1, h2⟩ | rfl
  · rw [show numericOf ⟨1, n, 1, ⟨#[]⟩⟩ = true from rfl]
    go_enter Tryz.func142, Tryz.ntmps142
    go_wp2
    exact bodyPost_ret (v := .bool true) (by simp [results, Tryz.results142, go_sem, *]) rfl ⟨rfl, (by repeat (first | with_reducible exact Below.refl _ _ | with_reducible assumption | ((with_reducible refine Below.setCell ?_ ?_ _); rotate_left; (simp; try omega)) | (with_reducible refine Ext.tr ?_ (by with_reducible assumption)) | (with_reducible refine Ext.al ?_ _) | (with_reducible refine below_drewN ?_ _) | (with_reducible refine Below.drew ?_)))⟩
  · rw [show numericOf ⟨6, 0, 0, ⟨#[]⟩⟩ = false from rfl]
    go_enter Tryz.func142, Tryz.ntmps142
    go_wp2
    exact bodyPost_ret (v := .bool false) (by simp [results, Tryz.results142, go_sem, *]) rfl ⟨rfl, (by repeat (first | with_reducible exact Below.refl _ _ | with_reducible assumption | ((with_reducible refine Below.setCell ?_ ?_ _); rotate_left; (simp; try omega)) | (with_reducible refine Ext.tr ?_ (by with_reducible assumption)) | (with_reducible refine Ext.al ?_ _) | (with_reducible refine below_drewN ?_ _) | (with_reducible refine Below.drew ?_)))⟩

set_option maxHeartbeats 400000 in
theorem ifArg (x : Sc) (w : World) (h : Wh x) : Calls Tryz.prog 141 #[x.val] w (Gives w (.bool (numericOf x))) := by
  have HG := Lib.hid (fun w' => given_wh x w' h)
  have hk : ¬ x.k = 3 := by rcases h.kind with h | h <;> rw [h] <;> decide
  clear h
  generalize numericOf x = r at HG ⊢
  obtain ⟨k, n, d, t⟩ := x
  cases r
  all_goals
    go_enter Tryz.func141, Tryz.ntmps141
    (go_wp2_with fail; refine (HG.out _).mono ?_; rintro e w1 ⟨rfl, hb1⟩; obtain ⟨hc1, hf1, hz1⟩ := ext_facts hb1; (try simp at hz1); (have hq1_0 : w.heap.size < w1.heap.size := by omega); (have hl1_0 : w.heap.size ≤ w1.heap.size := by omega); (have hr1_0 := fun o => hc1 (w.heap.size) o (by first | omega | (simp; done) | (simp; omega))); (have hs1_0 := fun o => hf1 (w.heap.size) o (by first | omega | (simp; done) | (simp; omega))); (try simp (disch := first | omega | (simp; omega)) only [World.cell?_alloc_past, World.cell?_drew] at hr1_0); (try simp (disch := first | omega | (simp; omega)) only [World.frozen?_alloc_past, World.frozen?_drew] at hs1_0); clear hc1 hf1)
    go_wp2
    go_ret
    exact ⟨by first | rfl | (show Ending.returned (.bool (k != 3)) = _; rw [show (k != 3) = true by simpa using hk]), (by repeat (first | with_reducible exact Below.refl _ _ | with_reducible assumption | ((with_reducible refine Below.setCell ?_ ?_ _); rotate_left; (simp; try omega)) | (with_reducible refine Ext.tr ?_ (by with_reducible assumption)) | (with_reducible refine Ext.al ?_ _) | (with_reducible refine below_drewN ?_ _) | (with_reducible refine Below.drew ?_)))⟩

/-- A truth as a number: 0 or 1. -/
def isCond (x : Sc) : Bool := numericOf x && (decide (0 ≤ x.n) && decide (x.n ≤ 1))

theorem between_wh (z : Sc) (lo hi : Int) (hz : Wh z) (w' : World) : Calls Tryz.prog 128 #[z.val, .int .i64 lo, .int .i64 hi] w' (Gives w' (.bool (numericOf z && (decide (lo ≤ z.n) && decide (z.n ≤ hi))))) := by
  rcases hz with ⟨n, rfl, _⟩ | rfl
  · have h := between_num n 1 lo hi w'
    rwa [show ((1 : Int) == 1) = true from rfl] at h
  · exact between_unsure lo hi w'

set_option maxHeartbeats 400000 in
theorem choice_wh (x : Sc) (w : World) (h : Wh x) : Calls Tryz.prog 140 #[x.val] w (Gives w (.bool (isCond x))) := by
  have HB := Lib.hid (fun w' => between_wh x 0 1 h w')
  rcases h with ⟨n, rfl, h1, h2⟩ | rfl
  · have e : isCond ⟨1, n, 1, ⟨#[]⟩⟩ = (numericOf ⟨1, n, 1, ⟨#[]⟩⟩ && (decide (0 ≤ (⟨1, n, 1, ⟨#[]⟩⟩ : Sc).n) && decide ((⟨1, n, 1, ⟨#[]⟩⟩ : Sc).n ≤ 1))) := rfl
    rw [e]
    generalize (numericOf ⟨1, n, 1, ⟨#[]⟩⟩ && (decide (0 ≤ (⟨1, n, 1, ⟨#[]⟩⟩ : Sc).n) && decide ((⟨1, n, 1, ⟨#[]⟩⟩ : Sc).n ≤ 1))) = r at HB ⊢
    cases r
    all_goals
      go_enter Tryz.func140, Tryz.ntmps140
      (go_wp2_with fail; refine (HB.out _).mono ?_; rintro e w1 ⟨rfl, hb1⟩; obtain ⟨hc1, hf1, hz1⟩ := ext_facts hb1; (try simp at hz1); (have hq1_0 : w.heap.size < w1.heap.size := by omega); (have hl1_0 : w.heap.size ≤ w1.heap.size := by omega); (have hr1_0 := fun o => hc1 (w.heap.size) o (by first | omega | (simp; done) | (simp; omega))); (have hs1_0 := fun o => hf1 (w.heap.size) o (by first | omega | (simp; done) | (simp; omega))); (try simp (disch := first | omega | (simp; omega)) only [World.cell?_alloc_past, World.cell?_drew] at hr1_0); (try simp (disch := first | omega | (simp; omega)) only [World.frozen?_alloc_past, World.frozen?_drew] at hs1_0); clear hc1 hf1)
      go_wp2
      go_ret
      exact ⟨rfl, (by repeat (first | with_reducible exact Below.refl _ _ | with_reducible assumption | ((with_reducible refine Below.setCell ?_ ?_ _); rotate_left; (simp; try omega)) | (with_reducible refine Ext.tr ?_ (by with_reducible assumption)) | (with_reducible refine Ext.al ?_ _) | (with_reducible refine below_drewN ?_ _) | (with_reducible refine Below.drew ?_)))⟩
  · rw [show isCond ⟨6, 0, 0, ⟨#[]⟩⟩ = false from rfl]
    go_enter Tryz.func140, Tryz.ntmps140
    (go_wp2_with fail; refine (between_unsure _ _ _).mono ?_; rintro e w1 ⟨rfl, hb1⟩; obtain ⟨hc1, hf1, hz1⟩ := ext_facts hb1; (try simp at hz1); (have hq1_0 : w.heap.size < w1.heap.size := by omega); (have hl1_0 : w.heap.size ≤ w1.heap.size := by omega); (have hr1_0 := fun o => hc1 (w.heap.size) o (by first | omega | (simp; done) | (simp; omega))); (have hs1_0 := fun o => hf1 (w.heap.size) o (by first | omega | (simp; done) | (simp; omega))); (try simp (disch := first | omega | (simp; omega)) only [World.cell?_alloc_past, World.cell?_drew] at hr1_0); (try simp (disch := first | omega | (simp; omega)) only [World.frozen?_alloc_past, World.frozen?_drew] at hs1_0); clear hc1 hf1)
    go_wp2
    exact bodyPost_ret (v := .bool false) (by simp [results, Tryz.results140, go_sem, *]) rfl ⟨rfl, (by repeat (first | with_reducible exact Below.refl _ _ | with_reducible assumption | ((with_reducible refine Below.setCell ?_ ?_ _); rotate_left; (simp; try omega)) | (with_reducible refine Ext.tr ?_ (by with_reducible assumption)) | (with_reducible refine Ext.al ?_ _) | (with_reducible refine below_drewN ?_ _) | (with_reducible refine Below.drew ?_)))⟩
end Go.Proofs.YtcknddfpcfhdpaaGreatDoor
