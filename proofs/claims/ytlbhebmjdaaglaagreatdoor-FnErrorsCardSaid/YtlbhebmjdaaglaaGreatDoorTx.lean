/-
  Texts: from the reference to the package and back.
-/
import Derived.Test.YtlbhebmjdaaglaaGreatDoorNum
namespace Go.Proofs.YtlbhebmjdaaglaaGreatDoor
set_option linter.unusedSimpArgs false
set_option linter.unusedVariables false
open Go Go.RowKit
set_option maxRecDepth 100000

/-- The cells of a text as formulaArg. -/
abbrev fstrC (s : ByteArray) : Array Value := #[.string ⟨#[]⟩, .float .f64 0, .string s, .slice none 0 0, .slice none 0 0, .bool false, .string ⟨#[]⟩, .int .u8 2, .pointer none, .pointer none]
abbrev ivt (s : ByteArray) : Iv := ⟨2, 0, s⟩

set_option maxHeartbeats 400000 in
theorem of_text (s : ByteArray) (w : World) : Calls Tryz.prog 40 #[Sc.val ⟨2, 0, 0, s⟩] w (Gives w (ivt s).val) := by
  go_enter Tryz.func40, Tryz.ntmps40
  go_wp2
  exact bodyPost_ret (v := (ivt s).val) (by simp [results, Tryz.results40, go_sem, *]) rfl ⟨rfl, (by repeat (first | with_reducible exact Below.refl _ _ | with_reducible assumption | ((with_reducible refine Below.setCell ?_ ?_ _); rotate_left; (simp; try omega)) | (with_reducible refine Ext.tr ?_ (by with_reducible assumption)) | (with_reducible refine Ext.al ?_ _) | (with_reducible refine below_drewN ?_ _) | (with_reducible refine Below.drew ?_)))⟩

set_option maxHeartbeats 400000 in
theorem newString_any (s : ByteArray) (w : World) : Calls Tryz.prog 70 #[.string s] w (Gives w (fstr s)) := by
  go_enter Tryz.func70, Tryz.ntmps70
  go_wp2
  exact bodyPost_ret (v := fstr s) (by simp [results, Tryz.results70, go_sem, *]) rfl ⟨rfl, (by repeat (first | with_reducible exact Below.refl _ _ | with_reducible assumption | ((with_reducible refine Below.setCell ?_ ?_ _); rotate_left; (simp; try omega)) | (with_reducible refine Ext.tr ?_ (by with_reducible assumption)) | (with_reducible refine Ext.al ?_ _) | (with_reducible refine below_drewN ?_ _) | (with_reducible refine Below.drew ?_)))⟩

set_option maxHeartbeats 400000 in
theorem innerArg_text (s : ByteArray) (w : World) : Calls Tryz.prog 60 #[(ivt s).val] w (Gives w (.agg (fstrC s))) := by
  go_enter Tryz.func60, Tryz.ntmps60
  go_wp2_with (go_at_call 70; refine (newString_any _ _).mono ?_; rintro e w1 ⟨rfl, hb⟩; obtain ⟨hc, hf, hz⟩ := ext_facts hb; (try simp at hz); (try (have hq : w.heap.size < w1.heap.size := by omega)); (try (have hq' : w.heap.size ≤ w1.heap.size := by omega)); (try (have hr := fun o => hc w.heap.size o (by first | omega | (simp; done) | (simp; omega)))); (try (have hrf := fun o => hf w.heap.size o (by first | omega | (simp; done) | (simp; omega)))))
  exact bodyPost_ret (v := fstr s) (by simp [results, Tryz.results60, go_sem, *]) rfl ⟨rfl, (by repeat (first | with_reducible exact Below.refl _ _ | with_reducible assumption | ((with_reducible refine Below.setCell ?_ ?_ _); rotate_left; (simp; try omega)) | (with_reducible refine Ext.tr ?_ (by with_reducible assumption)) | (with_reducible refine Ext.al ?_ _) | (with_reducible refine below_drewN ?_ _) | (with_reducible refine Below.drew ?_)))⟩

set_option maxHeartbeats 400000 in
theorem doorArg_text (s : ByteArray) (w : World) : Calls Tryz.prog 41 #[fstr s] w (Gives w (ivt s).val) := by
  go_enter Tryz.func41, Tryz.ntmps41
  go_wp2
  exact bodyPost_ret (v := (ivt s).val) (by simp [results, Tryz.results41, go_sem, *]) rfl ⟨rfl, (by repeat (first | with_reducible exact Below.refl _ _ | with_reducible assumption | ((with_reducible refine Below.setCell ?_ ?_ _); rotate_left; (simp; try omega)) | (with_reducible refine Ext.tr ?_ (by with_reducible assumption)) | (with_reducible refine Ext.al ?_ _) | (with_reducible refine below_drewN ?_ _) | (with_reducible refine Below.drew ?_)))⟩

set_option maxHeartbeats 400000 in
theorem short_one (s : ByteArray) (b c : Nat) (w : World) (h : w.cell? ⟨b, 0, none⟩ = some (.string s)) : Calls Tryz.prog 5 #[.slice (some ⟨b, 0, none⟩) 1 c] w (Gives w (.bool (decide (s.size ≤ 1000)))) := by
  by_cases hs : s.size ≤ 1000
  · have hlt : ¬ (1000 : Int) < (s.size : Int) := by omega
    rw [decide_eq_true hs]
    clear hs
    go_enter Tryz.func5, Tryz.ntmps5
    go_wp2
    go_loop [3] (fun i => i = .int .i64 0 ∨ i = .int .i64 1) (fun i => 1 - (intOf i).toNat)
    case atStart => exact Or.inl rfl
    case round =>
      rcases hrel with rfl | rfl
      · go_wp2
        go_round
        case rel => exact Or.inr (by go_num)
        case measure => simp [intOf]
      · go_wp2
        go_ret
        exact ⟨rfl, (by repeat (first | with_reducible exact Below.refl _ _ | with_reducible assumption | ((with_reducible refine Below.setCell ?_ ?_ _); rotate_left; (simp; try omega)) | (with_reducible refine Ext.tr ?_ (by with_reducible assumption)) | (with_reducible refine Ext.al ?_ _) | (with_reducible refine below_drewN ?_ _) | (with_reducible refine Below.drew ?_)))⟩
  · have hlt : (1000 : Int) < (s.size : Int) := by omega
    rw [decide_eq_false hs]
    clear hs
    go_enter Tryz.func5, Tryz.ntmps5
    go_wp2
    go_loop [3] (fun i => i = .int .i64 0) (fun i => 1 - (intOf i).toNat)
    case atStart => rfl
    case round =>
      subst hrel
      go_wp2
      go_ret
      exact ⟨rfl, (by repeat (first | with_reducible exact Below.refl _ _ | with_reducible assumption | ((with_reducible refine Below.setCell ?_ ?_ _); rotate_left; (simp; try omega)) | (with_reducible refine Ext.tr ?_ (by with_reducible assumption)) | (with_reducible refine Ext.al ?_ _) | (with_reducible refine below_drewN ?_ _) | (with_reducible refine Below.drew ?_)))⟩
end Go.Proofs.YtlbhebmjdaaglaaGreatDoor
