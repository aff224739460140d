/-
  Single values of the package as formulaArg.
-/
import Derived.Test.YtpcfmkongpmmmaaGreatDoorNum
import Derived.Test.YtpcfmkongpmmmaaGreatDoorTx
namespace Go.Proofs.YtpcfmkongpmmmaaGreatDoor
set_option linter.unusedSimpArgs false
set_option linter.unusedVariables false
open Go Go.RowKit
set_option maxRecDepth 100000

abbrev femptyC : Array Value := #[.string ⟨#[]⟩, .float .f64 0, .string ⟨#[]⟩, .slice none 0 0, .slice none 0 0, .bool false, .string ⟨#[]⟩, .int .u8 6, .pointer none, .pointer none]
abbrev fboolC (x : Nat) : Array Value := #[.string ⟨#[]⟩, .float .f64 x, .string ⟨#[]⟩, .slice none 0 0, .slice none 0 0, .bool true, .string ⟨#[]⟩, .int .u8 1, .pointer none, .pointer none]
abbrev ferrC (s m : ByteArray) : Array Value := #[.string ⟨#[]⟩, .float .f64 0, .string s, .slice none 0 0, .slice none 0 0, .bool false, .string m, .int .u8 5, .pointer none, .pointer none]

set_option maxHeartbeats 400000 in
theorem innerArg_empty (w : World) : Calls Tryz.prog 44 #[Iv.val ⟨0, 0, ⟨#[]⟩⟩] w (Gives w (.agg femptyC)) := by
  have he : ∀ w', Calls Tryz.prog 124 #[] w' (Gives w' (.agg femptyC)) := by
    intro w'
    go_enter Tryz.func124, Tryz.ntmps124
    go_wp2
    exact bodyPost_ret (v := .agg femptyC) (by simp [results, Tryz.results124, go_sem, *]) rfl ⟨rfl, (by repeat (first | with_reducible exact Below.refl _ _ | with_reducible assumption | ((with_reducible refine Below.setCell ?_ ?_ _); rotate_left; (simp; try omega)) | (with_reducible refine Ext.tr ?_ (by with_reducible assumption)) | (with_reducible refine Ext.al ?_ _) | (with_reducible refine below_drewN ?_ _) | (with_reducible refine Below.drew ?_)))⟩
  have HE := Lib.hid he; clear he
  go_enter Tryz.func44, Tryz.ntmps44
  (go_wp2_with fail; refine (HE.out _).mono ?_; rintro e w1 ⟨rfl, hb1⟩; obtain ⟨hc1, hf1, hz1⟩ := ext_facts hb1; (try simp at hz1); (have hq1_0 : w.heap.size < w1.heap.size := by omega); (have hl1_0 : w.heap.size ≤ w1.heap.size := by omega); (have hr1_0 := fun o => hc1 (w.heap.size) o (by first | omega | (simp; done) | (simp; omega))); (have hs1_0 := fun o => hf1 (w.heap.size) o (by first | omega | (simp; done) | (simp; omega))); (try simp (disch := first | omega | (simp; omega)) only [World.cell?_alloc_past, World.cell?_drew] at hr1_0); (try simp (disch := first | omega | (simp; omega)) only [World.frozen?_alloc_past, World.frozen?_drew] at hs1_0); (have hq1_1 : w.heap.size + 1 < w1.heap.size := by omega); (have hl1_1 : w.heap.size + 1 ≤ w1.heap.size := by omega); (have hr1_1 := fun o => hc1 (w.heap.size + 1) o (by first | omega | (simp; done) | (simp; omega))); (have hs1_1 := fun o => hf1 (w.heap.size + 1) o (by first | omega | (simp; done) | (simp; omega))); (try simp (disch := first | omega | (simp; omega)) only [World.cell?_alloc_past, World.cell?_drew] at hr1_1); (try simp (disch := first | omega | (simp; omega)) only [World.frozen?_alloc_past, World.frozen?_drew] at hs1_1); clear hc1 hf1)
  go_wp2
  exact bodyPost_ret (v := .agg femptyC) (by simp [results, Tryz.results44, go_sem, *]) rfl ⟨rfl, (by repeat (first | with_reducible exact Below.refl _ _ | with_reducible assumption | ((with_reducible refine Below.setCell ?_ ?_ _); rotate_left; (simp; try omega)) | (with_reducible refine Ext.tr ?_ (by with_reducible assumption)) | (with_reducible refine Ext.al ?_ _) | (with_reducible refine below_drewN ?_ _) | (with_reducible refine Below.drew ?_)))⟩

set_option maxHeartbeats 400000 in
theorem innerArg_err (t : ByteArray) (w : World) : Calls Tryz.prog 44 #[Iv.val ⟨4, 0, t⟩] w (Gives w (.agg (ferrC t t))) := by
  go_enter Tryz.func44, Tryz.ntmps44
  (go_wp2_with fail; refine (newError_any t t _).mono ?_; rintro e w1 ⟨rfl, hb1⟩; obtain ⟨hc1, hf1, hz1⟩ := ext_facts hb1; (try simp at hz1); (have hq1_0 : w.heap.size < w1.heap.size := by omega); (have hl1_0 : w.heap.size ≤ w1.heap.size := by omega); (have hr1_0 := fun o => hc1 (w.heap.size) o (by first | omega | (simp; done) | (simp; omega))); (have hs1_0 := fun o => hf1 (w.heap.size) o (by first | omega | (simp; done) | (simp; omega))); (try simp (disch := first | omega | (simp; omega)) only [World.cell?_alloc_past, World.cell?_drew] at hr1_0); (try simp (disch := first | omega | (simp; omega)) only [World.frozen?_alloc_past, World.frozen?_drew] at hs1_0); (have hq1_1 : w.heap.size + 1 < w1.heap.size := by omega); (have hl1_1 : w.heap.size + 1 ≤ w1.heap.size := by omega); (have hr1_1 := fun o => hc1 (w.heap.size + 1) o (by first | omega | (simp; done) | (simp; omega))); (have hs1_1 := fun o => hf1 (w.heap.size + 1) o (by first | omega | (simp; done) | (simp; omega))); (try simp (disch := first | omega | (simp; omega)) only [World.cell?_alloc_past, World.cell?_drew] at hr1_1); (try simp (disch := first | omega | (simp; omega)) only [World.frozen?_alloc_past, World.frozen?_drew] at hs1_1); clear hc1 hf1)
  go_wp2
  exact bodyPost_ret (v := ferr t t) (by simp [results, Tryz.results44, go_sem, *]) rfl ⟨rfl, (by repeat (first | with_reducible exact Below.refl _ _ | with_reducible assumption | ((with_reducible refine Below.setCell ?_ ?_ _); rotate_left; (simp; try omega)) | (with_reducible refine Ext.tr ?_ (by with_reducible assumption)) | (with_reducible refine Ext.al ?_ _) | (with_reducible refine below_drewN ?_ _) | (with_reducible refine Below.drew ?_)))⟩

set_option maxHeartbeats 400000 in
theorem innerArg_truth_no (w : World) : Calls Tryz.prog 44 #[Iv.val ⟨3, 0, ⟨#[]⟩⟩] w (Gives w (.agg (fboolC 0))) := by
  go_enter Tryz.func44, Tryz.ntmps44
  (go_wp2_with fail; refine (newBool_false _).mono ?_; rintro e w1 ⟨rfl, hb1⟩; obtain ⟨hc1, hf1, hz1⟩ := ext_facts hb1; (try simp at hz1); (have hq1_0 : w.heap.size < w1.heap.size := by omega); (have hl1_0 : w.heap.size ≤ w1.heap.size := by omega); (have hr1_0 := fun o => hc1 (w.heap.size) o (by first | omega | (simp; done) | (simp; omega))); (have hs1_0 := fun o => hf1 (w.heap.size) o (by first | omega | (simp; done) | (simp; omega))); (try simp (disch := first | omega | (simp; omega)) only [World.cell?_alloc_past, World.cell?_drew] at hr1_0); (try simp (disch := first | omega | (simp; omega)) only [World.frozen?_alloc_past, World.frozen?_drew] at hs1_0); (have hq1_1 : w.heap.size + 1 < w1.heap.size := by omega); (have hl1_1 : w.heap.size + 1 ≤ w1.heap.size := by omega); (have hr1_1 := fun o => hc1 (w.heap.size + 1) o (by first | omega | (simp; done) | (simp; omega))); (have hs1_1 := fun o => hf1 (w.heap.size + 1) o (by first | omega | (simp; done) | (simp; omega))); (try simp (disch := first | omega | (simp; omega)) only [World.cell?_alloc_past, World.cell?_drew] at hr1_1); (try simp (disch := first | omega | (simp; omega)) only [World.frozen?_alloc_past, World.frozen?_drew] at hs1_1); clear hc1 hf1)
  go_wp2
  exact bodyPost_ret (v := fbool 0) (by simp [results, Tryz.results44, go_sem, *]) rfl ⟨rfl, (by repeat (first | with_reducible exact Below.refl _ _ | with_reducible assumption | ((with_reducible refine Below.setCell ?_ ?_ _); rotate_left; (simp; try omega)) | (with_reducible refine Ext.tr ?_ (by with_reducible assumption)) | (with_reducible refine Ext.al ?_ _) | (with_reducible refine below_drewN ?_ _) | (with_reducible refine Below.drew ?_)))⟩

set_option maxHeartbeats 400000 in
theorem innerArg_truth_yes (w : World) : Calls Tryz.prog 44 #[Iv.val ⟨3, 4607182418800017408, ⟨#[]⟩⟩] w (Gives w (.agg (fboolC 4607182418800017408))) := by
  go_enter Tryz.func44, Tryz.ntmps44
  (go_wp2_with fail; refine (newBool_true _).mono ?_; rintro e w1 ⟨rfl, hb1⟩; obtain ⟨hc1, hf1, hz1⟩ := ext_facts hb1; (try simp at hz1); (have hq1_0 : w.heap.size < w1.heap.size := by omega); (have hl1_0 : w.heap.size ≤ w1.heap.size := by omega); (have hr1_0 := fun o => hc1 (w.heap.size) o (by first | omega | (simp; done) | (simp; omega))); (have hs1_0 := fun o => hf1 (w.heap.size) o (by first | omega | (simp; done) | (simp; omega))); (try simp (disch := first | omega | (simp; omega)) only [World.cell?_alloc_past, World.cell?_drew] at hr1_0); (try simp (disch := first | omega | (simp; omega)) only [World.frozen?_alloc_past, World.frozen?_drew] at hs1_0); (have hq1_1 : w.heap.size + 1 < w1.heap.size := by omega); (have hl1_1 : w.heap.size + 1 ≤ w1.heap.size := by omega); (have hr1_1 := fun o => hc1 (w.heap.size + 1) o (by first | omega | (simp; done) | (simp; omega))); (have hs1_1 := fun o => hf1 (w.heap.size + 1) o (by first | omega | (simp; done) | (simp; omega))); (try simp (disch := first | omega | (simp; omega)) only [World.cell?_alloc_past, World.cell?_drew] at hr1_1); (try simp (disch := first | omega | (simp; omega)) only [World.frozen?_alloc_past, World.frozen?_drew] at hs1_1); clear hc1 hf1)
  go_wp2
  exact bodyPost_ret (v := fbool 4607182418800017408) (by simp [results, Tryz.results44, go_sem, *]) rfl ⟨rfl, (by repeat (first | with_reducible exact Below.refl _ _ | with_reducible assumption | ((with_reducible refine Below.setCell ?_ ?_ _); rotate_left; (simp; try omega)) | (with_reducible refine Ext.tr ?_ (by with_reducible assumption)) | (with_reducible refine Ext.al ?_ _) | (with_reducible refine below_drewN ?_ _) | (with_reducible refine Below.drew ?_)))⟩

theorem tame1 : Tame 4607182418800017408 := ⟨by decide +kernel, fun h => absurd h (by decide +kernel)⟩

theorem tame0 : Tame 0 := by have := tame_f16 (Z := 0) (by decide) (by decide); rwa [f16_zero] at this

/-- The cells of a single value as formulaArg. -/
def innerC (x : Iv) : Array Value := if x.k = 1 then fnumC x.f else if x.k = 2 then fstrC x.t else if x.k = 3 then fboolC x.f else if x.k = 4 then ferrC x.t x.t else femptyC

/-- What of the thin package's single values the package takes as it is. -/
def IvOk (x : Iv) : Prop := x = ⟨0, 0, ⟨#[]⟩⟩ ∨ (∃ f, x = ⟨1, f, ⟨#[]⟩⟩ ∧ Tame f) ∨ (∃ t, x = ⟨2, 0, t⟩) ∨ x = ⟨3, 0, ⟨#[]⟩⟩ ∨ x = ⟨3, 4607182418800017408, ⟨#[]⟩⟩ ∨ ∃ t, x = ⟨4, 0, t⟩

theorem innerC_ok (x : Iv) (w : World) (h : IvOk x) : Calls Tryz.prog 44 #[x.val] w (Gives w (.agg (innerC x))) := by
  rcases h with rfl | ⟨f, rfl, hf⟩ | ⟨t, rfl⟩ | rfl | rfl | ⟨t, rfl⟩
  · exact innerArg_empty w
  · exact innerArg_num f w hf
  · exact innerArg_text t w
  · exact innerArg_truth_no w
  · exact innerArg_truth_yes w
  · exact innerArg_err t w

def innerL (x : Iv) : List Value := (innerC x).toList
theorem innerL_len (x : Iv) : (innerL x).length = 10 := by
  unfold innerL innerC
  split
  · rfl
  · split
    · rfl
    · split
      · rfl
      · split <;> rfl
theorem innerL_one (x : Iv) : ∀ u ∈ innerL x, u.oneCell' = true := by
  intro u hu
  unfold innerL innerC at hu
  split at hu
  · simp at hu; rcases hu with rfl | rfl | rfl | rfl | rfl | rfl | rfl | rfl <;> rfl
  · split at hu
    · simp at hu; rcases hu with rfl | rfl | rfl | rfl | rfl | rfl | rfl | rfl <;> rfl
    · split at hu
      · simp at hu; rcases hu with rfl | rfl | rfl | rfl | rfl | rfl | rfl | rfl <;> rfl
      · split at hu
        · simp at hu; rcases hu with rfl | rfl | rfl | rfl | rfl | rfl | rfl | rfl <;> rfl
        · simp at hu; rcases hu with rfl | rfl | rfl | rfl | rfl | rfl | rfl | rfl <;> rfl
end Go.Proofs.YtpcfmkongpmmmaaGreatDoor
