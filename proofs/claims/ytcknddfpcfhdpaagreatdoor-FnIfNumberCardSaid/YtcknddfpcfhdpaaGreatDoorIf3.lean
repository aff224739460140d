/-
  IF: the reference's value.
-/
import Derived.Test.YtcknddfpcfhdpaaGreatDoorIf2
namespace Go.Proofs.YtcknddfpcfhdpaaGreatDoor
set_option linter.unusedSimpArgs false
set_option linter.unusedVariables false
open Go Go.RowKit
set_option maxRecDepth 100000

set_option maxHeartbeats 400000 in
theorem asLogic_num (n d : Int) (t : ByteArray) (w : World) : Calls Tryz.prog 198 #[(⟨1, n, d, t⟩ : Sc).val] w (Gives w (.agg #[.int .i64 3, .int .i64 (if n = 0 then 0 else 1), .int .i64 0, .string ⟨#[]⟩, .slice none 0 0])) := by
  by_cases h : n = 0
  · rw [if_pos h]
    subst h
    have hb := fun w => bool_any false w
    go_enter Tryz.func198, Tryz.ntmps198
    (go_wp2_with fail; refine (hb _).mono ?_; rintro e w1 ⟨rfl, hb1⟩; obtain ⟨hc1, hf1, hz1⟩ := ext_facts hb1; (try simp at hz1); (have hq1_0 : w.heap.size < w1.heap.size := by omega); (have hl1_0 : w.heap.size ≤ w1.heap.size := by omega); (have hr1_0 := fun o => hc1 (w.heap.size) o (by first | omega | (simp; done) | (simp; omega))); (have hs1_0 := fun o => hf1 (w.heap.size) o (by first | omega | (simp; done) | (simp; omega))); (try simp (disch := first | omega | (simp; omega)) only [World.cell?_alloc_past, World.cell?_drew] at hr1_0); (try simp (disch := first | omega | (simp; omega)) only [World.frozen?_alloc_past, World.frozen?_drew] at hs1_0); (have hq1_1 : w.heap.size + 1 < w1.heap.size := by omega); (have hl1_1 : w.heap.size + 1 ≤ w1.heap.size := by omega); (have hr1_1 := fun o => hc1 (w.heap.size + 1) o (by first | omega | (simp; done) | (simp; omega))); (have hs1_1 := fun o => hf1 (w.heap.size + 1) o (by first | omega | (simp; done) | (simp; omega))); (try simp (disch := first | omega | (simp; omega)) only [World.cell?_alloc_past, World.cell?_drew] at hr1_1); (try simp (disch := first | omega | (simp; omega)) only [World.frozen?_alloc_past, World.frozen?_drew] at hs1_1); clear hc1 hf1)
    go_wp2
    exact bodyPost_ret (v := .agg #[.int .i64 3, .int .i64 0, .int .i64 0, .string ⟨#[]⟩, .slice none 0 0]) (by simp [results, Tryz.results198, go_sem, *]) rfl ⟨rfl, (by repeat (first | with_reducible exact Below.refl _ _ | with_reducible assumption | ((with_reducible refine Below.setCell ?_ ?_ _); rotate_left; (simp; try omega)) | (with_reducible refine Ext.tr ?_ (by with_reducible assumption)) | (with_reducible refine Ext.al ?_ _) | (with_reducible refine below_drewN ?_ _) | (with_reducible refine Below.drew ?_)))⟩
  · rw [if_neg h]
    have hne : (n != 0) = true := by simpa using h
    have hb := fun w => bool_any true w
    go_enter Tryz.func198, Tryz.ntmps198
    (go_wp2_with fail; refine (hb _).mono ?_; rintro e w1 ⟨rfl, hb1⟩; obtain ⟨hc1, hf1, hz1⟩ := ext_facts hb1; (try simp at hz1); (have hq1_0 : w.heap.size < w1.heap.size := by omega); (have hl1_0 : w.heap.size ≤ w1.heap.size := by omega); (have hr1_0 := fun o => hc1 (w.heap.size) o (by first | omega | (simp; done) | (simp; omega))); (have hs1_0 := fun o => hf1 (w.heap.size) o (by first | omega | (simp; done) | (simp; omega))); (try simp (disch := first | omega | (simp; omega)) only [World.cell?_alloc_past, World.cell?_drew] at hr1_0); (try simp (disch := first | omega | (simp; omega)) only [World.frozen?_alloc_past, World.frozen?_drew] at hs1_0); (have hq1_1 : w.heap.size + 1 < w1.heap.size := by omega); (have hl1_1 : w.heap.size + 1 ≤ w1.heap.size := by omega); (have hr1_1 := fun o => hc1 (w.heap.size + 1) o (by first | omega | (simp; done) | (simp; omega))); (have hs1_1 := fun o => hf1 (w.heap.size + 1) o (by first | omega | (simp; done) | (simp; omega))); (try simp (disch := first | omega | (simp; omega)) only [World.cell?_alloc_past, World.cell?_drew] at hr1_1); (try simp (disch := first | omega | (simp; omega)) only [World.frozen?_alloc_past, World.frozen?_drew] at hs1_1); clear hc1 hf1)
    go_wp2
    exact bodyPost_ret (v := .agg #[.int .i64 3, .int .i64 1, .int .i64 0, .string ⟨#[]⟩, .slice none 0 0]) (by simp [results, Tryz.results198, go_sem, *]) rfl ⟨rfl, (by repeat (first | with_reducible exact Below.refl _ _ | with_reducible assumption | ((with_reducible refine Below.setCell ?_ ?_ _); rotate_left; (simp; try omega)) | (with_reducible refine Ext.tr ?_ (by with_reducible assumption)) | (with_reducible refine Ext.al ?_ _) | (with_reducible refine below_drewN ?_ _) | (with_reducible refine Below.drew ?_)))⟩

set_option maxHeartbeats 400000 in
theorem flat_nil (a : Option Addr) (c : Nat) (w : World) : Calls Tryz.prog 17 #[.slice a 0 c] w (Gives w (.slice none 0 0)) := by
  go_enter Tryz.func17, Tryz.ntmps17
  go_wp2_with fail
  refine wp_loop_rounds 1 ?_
  rw [rounds_succ]
  go_wp2
  go_ret
  exact ⟨rfl, (by repeat (first | with_reducible exact Below.refl _ _ | with_reducible assumption | ((with_reducible refine Below.setCell ?_ ?_ _); rotate_left; (simp; try omega)) | (with_reducible refine Ext.tr ?_ (by with_reducible assumption)) | (with_reducible refine Ext.al ?_ _) | (with_reducible refine below_drewN ?_ _) | (with_reducible refine Below.drew ?_)))⟩

set_option maxHeartbeats 800000 in
theorem first_nil (a : Option Addr) (c : Nat) (w : World) : Calls Tryz.prog 188 #[.slice a 0 c] w (Gives w (.tuple #[zeroVal, .bool false])) := by
  go_enter Tryz.func188, Tryz.ntmps188
  (go_wp2_with fail; refine (flat_nil _ _ _).mono ?_; rintro e w1 ⟨rfl, hb1⟩; obtain ⟨hc1, hf1, hz1⟩ := ext_facts hb1; (try simp at hz1); (have hq1_0 : w.heap.size < w1.heap.size := by omega); (have hl1_0 : w.heap.size ≤ w1.heap.size := by omega); (have hr1_0 := fun o => hc1 (w.heap.size) o (by first | omega | (simp; done) | (simp; omega))); (have hs1_0 := fun o => hf1 (w.heap.size) o (by first | omega | (simp; done) | (simp; omega))); (try simp (disch := first | omega | (simp; omega)) only [World.cell?_alloc_past, World.cell?_drew] at hr1_0); (try simp (disch := first | omega | (simp; omega)) only [World.frozen?_alloc_past, World.frozen?_drew] at hs1_0); clear hc1 hf1)
  go_wp2_with fail
  refine wp_loop_rounds 1 ?_
  rw [rounds_succ]
  go_wp2_with fail
  refine wp_loop_rounds 1 ?_
  rw [rounds_succ]
  go_wp2
  exact bodyPost_ret (v := .tuple #[zeroVal, .bool false]) (by simp [results, Tryz.results188, go_sem, *]) rfl ⟨rfl, (by repeat (first | with_reducible exact Below.refl _ _ | with_reducible assumption | ((with_reducible refine Below.setCell ?_ ?_ _); rotate_left; (simp; try omega)) | (with_reducible refine Ext.tr ?_ (by with_reducible assumption)) | (with_reducible refine Ext.al ?_ _) | (with_reducible refine below_drewN ?_ _) | (with_reducible refine Below.drew ?_)))⟩

set_option maxHeartbeats 800000 in
/-- plainly, where no other value disturbs. -/
theorem plainly_ok (x : Sc) (a : Option Addr) (n c : Nat) (w : World) (hk : x.k = 1 ∨ x.k = 3) (h : ∀ w', Ext w w' → Calls Tryz.prog 188 #[.slice a n c] w' (Gives w' (.tuple #[zeroVal, .bool false]))) :
    Calls Tryz.prog 200 #[x.val, .slice a n c] w (Gives w x.val) := by
  have H := Lib.hid h; clear h
  have k0 : (x.k == 0) = false := by rcases hk with h | h <;> rw [h] <;> rfl
  have k5 : (x.k == 5) = false := by rcases hk with h | h <;> rw [h] <;> rfl
  have k0' : ¬ x.k = 0 := by rcases hk with h | h <;> rw [h] <;> decide
  have k5' : ¬ x.k = 5 := by rcases hk with h | h <;> rw [h] <;> decide
  clear hk
  go_enter Tryz.func200, Tryz.ntmps200
  (go_wp2_with fail; refine (H.out _ (by repeat (first | with_reducible exact Below.refl _ _ | with_reducible assumption | ((with_reducible refine Below.setCell ?_ ?_ _); rotate_left; (simp; try omega)) | (with_reducible refine Ext.tr ?_ (by with_reducible assumption)) | (with_reducible refine Ext.al ?_ _) | (with_reducible refine below_drewN ?_ _) | (with_reducible refine Below.drew ?_)))).mono ?_; rintro e w1 ⟨rfl, hb1⟩; obtain ⟨hc1, hf1, hz1⟩ := ext_facts hb1; (try simp at hz1); (have hq1_0 : w.heap.size < w1.heap.size := by omega); (have hl1_0 : w.heap.size ≤ w1.heap.size := by omega); (have hr1_0 := fun o => hc1 (w.heap.size) o (by first | omega | (simp; done) | (simp; omega))); (have hs1_0 := fun o => hf1 (w.heap.size) o (by first | omega | (simp; done) | (simp; omega))); (try simp (disch := first | omega | (simp; omega)) only [World.cell?_alloc_past, World.cell?_drew] at hr1_0); (try simp (disch := first | omega | (simp; omega)) only [World.frozen?_alloc_past, World.frozen?_drew] at hs1_0); (have hq1_1 : w.heap.size + 1 < w1.heap.size := by omega); (have hl1_1 : w.heap.size + 1 ≤ w1.heap.size := by omega); (have hr1_1 := fun o => hc1 (w.heap.size + 1) o (by first | omega | (simp; done) | (simp; omega))); (have hs1_1 := fun o => hf1 (w.heap.size + 1) o (by first | omega | (simp; done) | (simp; omega))); (try simp (disch := first | omega | (simp; omega)) only [World.cell?_alloc_past, World.cell?_drew] at hr1_1); (try simp (disch := first | omega | (simp; omega)) only [World.frozen?_alloc_past, World.frozen?_drew] at hs1_1); clear hc1 hf1)
  go_wp2
  exact bodyPost_ret (v := x.val) (by simp [results, Tryz.results200, go_sem, *]) rfl ⟨rfl, (by repeat (first | with_reducible exact Below.refl _ _ | with_reducible assumption | ((with_reducible refine Below.setCell ?_ ?_ _); rotate_left; (simp; try omega)) | (with_reducible refine Ext.tr ?_ (by with_reducible assumption)) | (with_reducible refine Ext.al ?_ _) | (with_reducible refine below_drewN ?_ _) | (with_reducible refine Below.drew ?_)))⟩
end Go.Proofs.YtcknddfpcfhdpaaGreatDoor
