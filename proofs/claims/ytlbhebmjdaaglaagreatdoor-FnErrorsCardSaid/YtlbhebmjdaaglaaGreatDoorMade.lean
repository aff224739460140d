/-
  A law's argument of any kind: argMade.
-/
import Derived.Test.YtlbhebmjdaaglaaGreatDoorPart
import Derived.Test.YtlbhebmjdaaglaaGreatDoorTn
namespace Go.Proofs.YtlbhebmjdaaglaaGreatDoor
set_option linter.unusedSimpArgs false
set_option linter.unusedVariables false
open Go Go.RowKit
set_option maxRecDepth 100000

/-- A truth as a value. -/
abbrev logSc (r : Bool) : Sc := ⟨3, if r then 1 else 0, 0, ⟨#[]⟩⟩

/-- The seven names of errors. -/
def errNames : List ByteArray := [⟨#[35, 78, 85, 76, 76, 33]⟩, ⟨#[35, 68, 73, 86, 47, 48, 33]⟩, ⟨#[35, 86, 65, 76, 85, 69, 33]⟩, ⟨#[35, 82, 69, 70, 33]⟩, ⟨#[35, 78, 65, 77, 69, 63]⟩, ⟨#[35, 78, 85, 77, 33]⟩, ⟨#[35, 78, 47, 65]⟩]

/-- What argMade gives. -/
def MadeOk (s : ByteArray) (x : Sc) : Prop := x = ⟨0, 0, 0, ⟨#[]⟩⟩ ∨ (∃ Z, ArgOk Z x) ∨ x = ⟨2, 0, 0, s⟩ ∨ (∃ r : Bool, x = logSc r) ∨ (∃ t, t ∈ errNames ∧ x = ⟨4, 0, 0, t⟩)

theorem WholeOk.arg {n : Int} {x : Sc} (h : WholeOk n x) : ∃ Z, ArgOk Z x := by
  rcases h with ⟨rfl, h1, h2⟩ | rfl
  · exact ⟨_, Or.inl ⟨⟨rfl, Or.inl rfl, h1, h2⟩, rfl, rfl⟩⟩
  · exact ⟨0, Or.inr rfl⟩

set_option maxHeartbeats 3200000 in
theorem argMade_ok (k n : Int) (s : ByteArray) (w : World) (hk : 0 ≤ k ∧ k ≤ 255) (hn : -9223372036854775808 ≤ n ∧ n ≤ 9223372036854775807) :
    Calls Tryz.prog 4 #[.int .u8 k, .int .i64 n, .string s] w fun e w' => ∃ x : Sc, e = .returned x.val ∧ MadeOk s x ∧ Ext w w' := by
  obtain ⟨k1, k2⟩ := hk
  obtain ⟨n1, n2⟩ := hn
  have HW := Lib.hid (fun w' => argWhole_ok n w')
  have HP := Lib.hid (fun w' => argPart_ok n w')
  have HB := Lib.hid (fun r w' => bool_any r w')
  have hr : k.tmod 6 = 0 ∨ k.tmod 6 = 1 ∨ k.tmod 6 = 2 ∨ k.tmod 6 = 3 ∨ k.tmod 6 = 4 ∨ k.tmod 6 = 5 := by
    rw [Int.tmod_eq_emod_of_nonneg k1]; omega
  rcases hr with h | h | h | h | h | h
  · go_enter Tryz.func4, Tryz.ntmps4
    go_wp2
    exact bodyPost_ret (v := (⟨0, 0, 0, ⟨#[]⟩⟩ : Sc).val) (by simp [results, Tryz.results4, go_sem, *]) rfl ⟨⟨0, 0, 0, ⟨#[]⟩⟩, rfl, Or.inl rfl, (by repeat (first | with_reducible exact Below.refl _ _ | with_reducible assumption | ((with_reducible refine Below.setCell ?_ ?_ _); rotate_left; (simp; try omega)) | (with_reducible refine Ext.tr ?_ (by with_reducible assumption)) | (with_reducible refine Ext.al ?_ _) | (with_reducible refine below_drewN ?_ _) | (with_reducible refine Below.drew ?_)))⟩
  · go_enter Tryz.func4, Tryz.ntmps4
    go_wp2_with fail
    refine (HW.out _).mono ?_
    rintro e w1 ⟨x, rfl, hx, hb1⟩
    (obtain ⟨hc1, hf1, hz1⟩ := ext_facts hb1; (try simp at hz1); (have hq1_0 : w.heap.size < w1.heap.size := by omega); (have hl1_0 : w.heap.size ≤ w1.heap.size := by omega); (have hr1_0 := fun o => hc1 (w.heap.size) o (by first | omega | (simp; done) | (simp; omega))); (have hs1_0 := fun o => hf1 (w.heap.size) o (by first | omega | (simp; done) | (simp; omega))); (try simp (disch := first | omega | (simp; omega)) only [World.cell?_alloc_past, World.cell?_drew] at hr1_0); (try simp (disch := first | omega | (simp; omega)) only [World.frozen?_alloc_past, World.frozen?_drew] at hs1_0); clear hc1 hf1)
    have HX := Lib.hid hx; clear hx
    go_wp2
    exact bodyPost_ret (v := x.val) (by simp [results, Tryz.results4, go_sem, *]) rfl ⟨x, rfl, Or.inr (Or.inl HX.out.arg), (by repeat (first | with_reducible exact Below.refl _ _ | with_reducible assumption | ((with_reducible refine Below.setCell ?_ ?_ _); rotate_left; (simp; try omega)) | (with_reducible refine Ext.tr ?_ (by with_reducible assumption)) | (with_reducible refine Ext.al ?_ _) | (with_reducible refine below_drewN ?_ _) | (with_reducible refine Below.drew ?_)))⟩
  · go_enter Tryz.func4, Tryz.ntmps4
    (go_wp2_with fail; refine (str_any s _).mono ?_; rintro e w1 ⟨rfl, hb1⟩; obtain ⟨hc1, hf1, hz1⟩ := ext_facts hb1; (try simp at hz1); (have hq1_0 : w.heap.size < w1.heap.size := by omega); (have hl1_0 : w.heap.size ≤ w1.heap.size := by omega); (have hr1_0 := fun o => hc1 (w.heap.size) o (by first | omega | (simp; done) | (simp; omega))); (have hs1_0 := fun o => hf1 (w.heap.size) o (by first | omega | (simp; done) | (simp; omega))); (try simp (disch := first | omega | (simp; omega)) only [World.cell?_alloc_past, World.cell?_drew] at hr1_0); (try simp (disch := first | omega | (simp; omega)) only [World.frozen?_alloc_past, World.frozen?_drew] at hs1_0); clear hc1 hf1)
    go_wp2
    exact bodyPost_ret (v := (⟨2, 0, 0, s⟩ : Sc).val) (by simp [results, Tryz.results4, go_sem, *]) rfl ⟨⟨2, 0, 0, s⟩, rfl, Or.inr (Or.inr (Or.inl rfl)), (by repeat (first | with_reducible exact Below.refl _ _ | with_reducible assumption | ((with_reducible refine Below.setCell ?_ ?_ _); rotate_left; (simp; try omega)) | (with_reducible refine Ext.tr ?_ (by with_reducible assumption)) | (with_reducible refine Ext.al ?_ _) | (with_reducible refine below_drewN ?_ _) | (with_reducible refine Below.drew ?_)))⟩
  · obtain ⟨r, hr⟩ : ∃ r : Bool, (n.tmod 2 != 0) = r := ⟨_, rfl⟩
    cases r
    · go_enter Tryz.func4, Tryz.ntmps4
      (go_wp2_with fail; refine (HB.out false _).mono ?_; rintro e w1 ⟨rfl, hb1⟩; obtain ⟨hc1, hf1, hz1⟩ := ext_facts hb1; (try simp at hz1); (have hq1_0 : w.heap.size < w1.heap.size := by omega); (have hl1_0 : w.heap.size ≤ w1.heap.size := by omega); (have hr1_0 := fun o => hc1 (w.heap.size) o (by first | omega | (simp; done) | (simp; omega))); (have hs1_0 := fun o => hf1 (w.heap.size) o (by first | omega | (simp; done) | (simp; omega))); (try simp (disch := first | omega | (simp; omega)) only [World.cell?_alloc_past, World.cell?_drew] at hr1_0); (try simp (disch := first | omega | (simp; omega)) only [World.frozen?_alloc_past, World.frozen?_drew] at hs1_0); clear hc1 hf1)
      go_wp2
      exact bodyPost_ret (v := (logSc false).val) (by simp [results, Tryz.results4, go_sem, *]) rfl ⟨logSc false, rfl, Or.inr (Or.inr (Or.inr (Or.inl ⟨false, rfl⟩))), (by repeat (first | with_reducible exact Below.refl _ _ | with_reducible assumption | ((with_reducible refine Below.setCell ?_ ?_ _); rotate_left; (simp; try omega)) | (with_reducible refine Ext.tr ?_ (by with_reducible assumption)) | (with_reducible refine Ext.al ?_ _) | (with_reducible refine below_drewN ?_ _) | (with_reducible refine Below.drew ?_)))⟩
    · go_enter Tryz.func4, Tryz.ntmps4
      (go_wp2_with fail; refine (HB.out true _).mono ?_; rintro e w1 ⟨rfl, hb1⟩; obtain ⟨hc1, hf1, hz1⟩ := ext_facts hb1; (try simp at hz1); (have hq1_0 : w.heap.size < w1.heap.size := by omega); (have hl1_0 : w.heap.size ≤ w1.heap.size := by omega); (have hr1_0 := fun o => hc1 (w.heap.size) o (by first | omega | (simp; done) | (simp; omega))); (have hs1_0 := fun o => hf1 (w.heap.size) o (by first | omega | (simp; done) | (simp; omega))); (try simp (disch := first | omega | (simp; omega)) only [World.cell?_alloc_past, World.cell?_drew] at hr1_0); (try simp (disch := first | omega | (simp; omega)) only [World.frozen?_alloc_past, World.frozen?_drew] at hs1_0); clear hc1 hf1)
      go_wp2
      exact bodyPost_ret (v := (logSc true).val) (by simp [results, Tryz.results4, go_sem, *]) rfl ⟨logSc true, rfl, Or.inr (Or.inr (Or.inr (Or.inl ⟨true, rfl⟩))), (by repeat (first | with_reducible exact Below.refl _ _ | with_reducible assumption | ((with_reducible refine Below.setCell ?_ ?_ _); rotate_left; (simp; try omega)) | (with_reducible refine Ext.tr ?_ (by with_reducible assumption)) | (with_reducible refine Ext.al ?_ _) | (with_reducible refine below_drewN ?_ _) | (with_reducible refine Below.drew ?_)))⟩
  · obtain ⟨u, hu⟩ : ∃ u : Int, IntKind.u64.wrap n = u := ⟨_, rfl⟩
    have hu0 : 0 ≤ u := by rw [← hu]; exact (wrap_within .u64 n).1
    have h7 : u.tmod 7 = 0 ∨ u.tmod 7 = 1 ∨ u.tmod 7 = 2 ∨ u.tmod 7 = 3 ∨ u.tmod 7 = 4 ∨ u.tmod 7 = 5 ∨ u.tmod 7 = 6 := by
      rw [Int.tmod_eq_emod_of_nonneg hu0]; omega
    clear hu0
    rcases h7 with h7 | h7 | h7 | h7 | h7 | h7 | h7
    all_goals
      go_enter Tryz.func4, Tryz.ntmps4
      go_wp2_with fail
      refine (err_any _ _).mono ?_
      rintro e w1 ⟨rfl, hb1⟩
      (obtain ⟨hc1, hf1, hz1⟩ := ext_facts hb1; (try simp at hz1); (have hq1_0 : w.heap.size < w1.heap.size := by omega); (have hl1_0 : w.heap.size ≤ w1.heap.size := by omega); (have hr1_0 := fun o => hc1 (w.heap.size) o (by first | omega | (simp; done) | (simp; omega))); (have hs1_0 := fun o => hf1 (w.heap.size) o (by first | omega | (simp; done) | (simp; omega))); (try simp (disch := first | omega | (simp; omega)) only [World.cell?_alloc_past, World.cell?_drew] at hr1_0); (try simp (disch := first | omega | (simp; omega)) only [World.frozen?_alloc_past, World.frozen?_drew] at hs1_0); clear hc1 hf1)
      go_wp2
      refine bodyPost_ret (v := errv _) (by simp [results, Tryz.results4, go_sem, *]; rfl) rfl ⟨⟨4, 0, 0, _⟩, rfl, Or.inr (Or.inr (Or.inr (Or.inr ⟨_, by simp [errNames], rfl⟩))), (by repeat (first | with_reducible exact Below.refl _ _ | with_reducible assumption | ((with_reducible refine Below.setCell ?_ ?_ _); rotate_left; (simp; try omega)) | (with_reducible refine Ext.tr ?_ (by with_reducible assumption)) | (with_reducible refine Ext.al ?_ _) | (with_reducible refine below_drewN ?_ _) | (with_reducible refine Below.drew ?_)))⟩
  · go_enter Tryz.func4, Tryz.ntmps4
    go_wp2_with fail
    refine (HP.out _).mono ?_
    rintro e w1 hx
    obtain ⟨x, rfl, hx, hb1⟩ := NumOr.sc hx
    (obtain ⟨hc1, hf1, hz1⟩ := ext_facts hb1; (try simp at hz1); (have hq1_0 : w.heap.size < w1.heap.size := by omega); (have hl1_0 : w.heap.size ≤ w1.heap.size := by omega); (have hr1_0 := fun o => hc1 (w.heap.size) o (by first | omega | (simp; done) | (simp; omega))); (have hs1_0 := fun o => hf1 (w.heap.size) o (by first | omega | (simp; done) | (simp; omega))); (try simp (disch := first | omega | (simp; omega)) only [World.cell?_alloc_past, World.cell?_drew] at hr1_0); (try simp (disch := first | omega | (simp; omega)) only [World.frozen?_alloc_past, World.frozen?_drew] at hs1_0); clear hc1 hf1)
    have HX := Lib.hid hx; clear hx
    go_wp2
    exact bodyPost_ret (v := x.val) (by simp [results, Tryz.results4, go_sem, *]) rfl ⟨x, rfl, Or.inr (Or.inl ⟨_, HX.out⟩), (by repeat (first | with_reducible exact Below.refl _ _ | with_reducible assumption | ((with_reducible refine Below.setCell ?_ ?_ _); rotate_left; (simp; try omega)) | (with_reducible refine Ext.tr ?_ (by with_reducible assumption)) | (with_reducible refine Ext.al ?_ _) | (with_reducible refine below_drewN ?_ _) | (with_reducible refine Below.drew ?_)))⟩
end Go.Proofs.YtlbhebmjdaaglaaGreatDoor
