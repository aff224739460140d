/-
  Texts: from the reference to the package and back.
-/
import Derived.Test.YtpcfmkongpmmmaaGreatDoorNum
namespace Go.Proofs.YtpcfmkongpmmmaaGreatDoor
set_option linter.unusedSimpArgs false
set_option linter.unusedVariables false
open Go Go.RowKit
set_option maxRecDepth 100000

/-- The cells of a text as formulaArg. -/
abbrev fstrC (s : ByteArray) : Array Value := #[.string ⟨#[]⟩, .float .f64 0, .string s, .slice none 0 0, .slice none 0 0, .bool false, .string ⟨#[]⟩, .int .u8 2, .pointer none, .pointer none]
abbrev ivt (s : ByteArray) : Iv := ⟨2, 0, s⟩

set_option maxHeartbeats 400000 in
theorem of_text (s : ByteArray) (w : World) : Calls Tryz.prog 23 #[Sc.val ⟨2, 0, 0, s⟩] w (Gives w (ivt s).val) := by
  go_enter Tryz.func23, Tryz.ntmps23
  go_wp2
  exact bodyPost_ret (v := (ivt s).val) (by simp [results, Tryz.results23, go_sem, *]) rfl ⟨rfl, (by repeat (first | with_reducible exact Below.refl _ _ | with_reducible assumption | ((with_reducible refine Below.setCell ?_ ?_ _); rotate_left; (simp; try omega)) | (with_reducible refine Ext.tr ?_ (by with_reducible assumption)) | (with_reducible refine Ext.al ?_ _) | (with_reducible refine below_drewN ?_ _) | (with_reducible refine Below.drew ?_)))⟩

set_option maxHeartbeats 400000 in
theorem newString_any (s : ByteArray) (w : World) : Calls Tryz.prog 121 #[.string s] w (Gives w (fstr s)) := by
  go_enter Tryz.func121, Tryz.ntmps121
  go_wp2
  exact bodyPost_ret (v := fstr s) (by simp [results, Tryz.results121, go_sem, *]) rfl ⟨rfl, (by repeat (first | with_reducible exact Below.refl _ _ | with_reducible assumption | ((with_reducible refine Below.setCell ?_ ?_ _); rotate_left; (simp; try omega)) | (with_reducible refine Ext.tr ?_ (by with_reducible assumption)) | (with_reducible refine Ext.al ?_ _) | (with_reducible refine below_drewN ?_ _) | (with_reducible refine Below.drew ?_)))⟩

set_option maxHeartbeats 400000 in
theorem innerArg_text (s : ByteArray) (w : World) : Calls Tryz.prog 44 #[(ivt s).val] w (Gives w (.agg (fstrC s))) := by
  go_enter Tryz.func44, Tryz.ntmps44
  go_wp2_with (go_at_call 121; refine (newString_any _ _).mono ?_; rintro e w1 ⟨rfl, hb⟩; obtain ⟨hc, hf, hz⟩ := ext_facts hb; (try simp at hz); (try (have hq : w.heap.size < w1.heap.size := by omega)); (try (have hq' : w.heap.size ≤ w1.heap.size := by omega)); (try (have hr := fun o => hc w.heap.size o (by first | omega | (simp; done) | (simp; omega)))); (try (have hrf := fun o => hf w.heap.size o (by first | omega | (simp; done) | (simp; omega)))))
  exact bodyPost_ret (v := fstr s) (by simp [results, Tryz.results44, go_sem, *]) rfl ⟨rfl, (by repeat (first | with_reducible exact Below.refl _ _ | with_reducible assumption | ((with_reducible refine Below.setCell ?_ ?_ _); rotate_left; (simp; try omega)) | (with_reducible refine Ext.tr ?_ (by with_reducible assumption)) | (with_reducible refine Ext.al ?_ _) | (with_reducible refine below_drewN ?_ _) | (with_reducible refine Below.drew ?_)))⟩

set_option maxHeartbeats 400000 in
theorem doorArg_text (s : ByteArray) (w : World) : Calls Tryz.prog 24 #[fstr s] w (Gives w (ivt s).val) := by
  go_enter Tryz.func24, Tryz.ntmps24
  go_wp2
  exact bodyPost_ret (v := (ivt s).val) (by simp [results, Tryz.results24, go_sem, *]) rfl ⟨rfl, (by repeat (first | with_reducible exact Below.refl _ _ | with_reducible assumption | ((with_reducible refine Below.setCell ?_ ?_ _); rotate_left; (simp; try omega)) | (with_reducible refine Ext.tr ?_ (by with_reducible assumption)) | (with_reducible refine Ext.al ?_ _) | (with_reducible refine below_drewN ?_ _) | (with_reducible refine Below.drew ?_)))⟩

end Go.Proofs.YtpcfmkongpmmmaaGreatDoor
