/-
  Contracts of the reference's functions on single values.
-/
import Derived.Test.YtlbhebmjdaaglaaGreatDoorB
namespace Go.Proofs.YtlbhebmjdaaglaaGreatDoor
set_option linter.unusedSimpArgs false
set_option linter.unusedVariables false
open Go Go.RowKit
set_option maxRecDepth 100000

set_option maxHeartbeats 400000 in
theorem str_any (t : ByteArray) (w : World) : Calls Tryz.prog 18 #[.string t] w (Gives w (.agg #[.int .i64 2, .int .i64 0, .int .i64 0, .string t, .slice none 0 0])) := by
  go_enter Tryz.func18, Tryz.ntmps18
  go_wp2
  exact bodyPost_ret (v := .agg #[.int .i64 2, .int .i64 0, .int .i64 0, .string t, .slice none 0 0]) (by simp [results, Tryz.results18, go_sem, *]) rfl ⟨rfl, (by repeat (first | with_reducible exact Below.refl _ _ | with_reducible assumption | ((with_reducible refine Below.setCell ?_ ?_ _); rotate_left; (simp; try omega)) | (with_reducible refine Ext.tr ?_ (by with_reducible assumption)) | (with_reducible refine Ext.al ?_ _) | (with_reducible refine below_drewN ?_ _) | (with_reducible refine Below.drew ?_)))⟩

set_option maxHeartbeats 400000 in
theorem err_any (t : ByteArray) (w : World) : Calls Tryz.prog 20 #[.string t] w (Gives w (errv t)) := by
  go_enter Tryz.func20, Tryz.ntmps20
  go_wp2
  exact bodyPost_ret (v := errv t) (by simp [results, Tryz.results20, go_sem, *]) rfl ⟨rfl, (by repeat (first | with_reducible exact Below.refl _ _ | with_reducible assumption | ((with_reducible refine Below.setCell ?_ ?_ _); rotate_left; (simp; try omega)) | (with_reducible refine Ext.tr ?_ (by with_reducible assumption)) | (with_reducible refine Ext.al ?_ _) | (with_reducible refine below_drewN ?_ _) | (with_reducible refine Below.drew ?_)))⟩

set_option maxHeartbeats 400000 in
theorem bool_any (b : Bool) (w : World) : Calls Tryz.prog 19 #[.bool b] w (Gives w (.agg #[.int .i64 3, .int .i64 (if b then 1 else 0), .int .i64 0, .string ⟨#[]⟩, .slice none 0 0])) := by
  cases b
  all_goals
    go_enter Tryz.func19, Tryz.ntmps19
    go_wp2
  · exact bodyPost_ret (v := .agg #[.int .i64 3, .int .i64 0, .int .i64 0, .string ⟨#[]⟩, .slice none 0 0]) (by simp [results, Tryz.results19, go_sem, *]) rfl ⟨rfl, (by repeat (first | with_reducible exact Below.refl _ _ | with_reducible assumption | ((with_reducible refine Below.setCell ?_ ?_ _); rotate_left; (simp; try omega)) | (with_reducible refine Ext.tr ?_ (by with_reducible assumption)) | (with_reducible refine Ext.al ?_ _) | (with_reducible refine below_drewN ?_ _) | (with_reducible refine Below.drew ?_)))⟩
  · exact bodyPost_ret (v := .agg #[.int .i64 3, .int .i64 1, .int .i64 0, .string ⟨#[]⟩, .slice none 0 0]) (by simp [results, Tryz.results19, go_sem, *]) rfl ⟨rfl, (by repeat (first | with_reducible exact Below.refl _ _ | with_reducible assumption | ((with_reducible refine Below.setCell ?_ ?_ _); rotate_left; (simp; try omega)) | (with_reducible refine Ext.tr ?_ (by with_reducible assumption)) | (with_reducible refine Ext.al ?_ _) | (with_reducible refine below_drewN ?_ _) | (with_reducible refine Below.drew ?_)))⟩
end Go.Proofs.YtlbhebmjdaaglaaGreatDoor
