/-
  XOR of two truths.
  The seven functions by their doors; said; Same of two truths.
  What the seven functions say of each value that argMade makes.
  The tables that FormatFloat reads, from what the row lays.
-/
import Derived.Test.YtlbhebmjdaaglaaGreatDoorEr1
import Derived.Test.YtlbhebmjdaaglaaGreatDoorNx2
import Derived.Test.YtlbhebmjdaaglaaGreatDoorFt9
import Derived.OpenShut
import Derived.ChangeArms
import Derived.FnData
import Derived.LaidOnce
import GoSem.ClaimJoined
namespace Go.Proofs.YtlbhebmjdaaglaaGreatDoor
set_option linter.unusedSimpArgs false
set_option linter.unusedVariables false
open Go Go.RowKit
set_option maxRecDepth 100000

set_option maxHeartbeats 12800000 in
theorem calcXor_two (r1 r2 : Bool) (b B : Nat) (w : World) (h : ArgsAt w b B [fboolC (oneW r1), fboolC (oneW r2)]) :
    Calls Tryz.prog 64 #[ptr b] w (Gives w (fbool (oneW (r1 != r2)))) := by
  obtain ⟨es, hes⟩ := h.es
  obtain ⟨n0, hi0, he0⟩ := hes.elem (i := 0) rfl
  obtain ⟨n1, hi1, he1⟩ := hes.elem (i := 1) rfl
  have hlen := hes.len
  have hp0 : elp es 0 = ptr n0 := by unfold elp; rw [hi0]
  have hp1 : elp es 1 = ptr n1 := by unfold elp; rw [hi1]
  have hp2 : elp es 2 = .pointer none := by unfold elp; rw [List.getElem?_eq_none (by simp at hlen; omega)]
  have HF := Lib.hid (fun w' (hw : Ext w w') => hp0 ▸ front_es w' b es _ (hes.ext hw))
  have HN0 := Lib.hid (fun w' (hw : Ext w w') => hp1 ▸ next_es w' b es _ (hes.ext hw) 0 n0 _ hi0)
  have HN1 := Lib.hid (fun w' (hw : Ext w w') => hp2 ▸ next_es w' b es _ (hes.ext hw) 1 n1 _ hi1)
  unfold ElemAt at he0 he1
  have hl0 := lt_of_cell he0
  have hl1 := lt_of_cell he1
  have ho1 : FloatKind.f64.format.order 4607182418800017408 0 = some Ordering.gt := by decide +kernel
  have ho0 : FloatKind.f64.format.order 0 0 = some Ordering.eq := by decide +kernel
  clear h hes hi0 hi1 hlen hp0 hp1 hp2
  cases r1
  · cases r2
    · go_enter Tryz.func64, Tryz.ntmps64
      go_wp2_with fail
      refine (HF.out _ (by repeat (first | with_reducible exact Below.refl _ _ | with_reducible assumption | ((with_reducible refine Below.setCell ?_ ?_ _); rotate_left; (simp; try omega)) | (with_reducible refine Ext.tr ?_ (by with_reducible assumption)) | (with_reducible refine Ext.al ?_ _) | (with_reducible refine below_drewN ?_ _) | (with_reducible refine Below.drew ?_)))).mono ?_
      rintro e w1 ⟨rfl, rfl⟩
      go_wp2_with fail
      refine wp_loop_rounds 3 ?_
      rw [rounds_succ]
      go_wp2_with fail
      refine (HN0.out _ (by repeat (first | with_reducible exact Below.refl _ _ | with_reducible assumption | ((with_reducible refine Below.setCell ?_ ?_ _); rotate_left; (simp; try omega)) | (with_reducible refine Ext.tr ?_ (by with_reducible assumption)) | (with_reducible refine Ext.al ?_ _) | (with_reducible refine below_drewN ?_ _) | (with_reducible refine Below.drew ?_)))).mono ?_
      rintro e w2 ⟨rfl, rfl⟩
      go_wp2_with fail
      rw [rounds_succ]
      go_wp2_with fail
      refine (HN1.out _ (by repeat (first | with_reducible exact Below.refl _ _ | with_reducible assumption | ((with_reducible refine Below.setCell ?_ ?_ _); rotate_left; (simp; try omega)) | (with_reducible refine Ext.tr ?_ (by with_reducible assumption)) | (with_reducible refine Ext.al ?_ _) | (with_reducible refine below_drewN ?_ _) | (with_reducible refine Below.drew ?_)))).mono ?_
      rintro e w3 ⟨rfl, rfl⟩
      go_wp2_with fail
      rw [rounds_succ]
      go_wp2_with fail
      (go_wp2_with fail; refine (newBool_false _).mono ?_; rintro e w4 ⟨rfl, hb4⟩; obtain ⟨hc4, hf4, hz4⟩ := ext_facts hb4; (try simp at hz4); (have hq4_0 : w.heap.size < w4.heap.size := by omega); (have hl4_0 : w.heap.size ≤ w4.heap.size := by omega); (have hr4_0 := fun o => hc4 (w.heap.size) o (by first | omega | (simp; done) | (simp; omega))); (have hs4_0 := fun o => hf4 (w.heap.size) o (by first | omega | (simp; done) | (simp; omega))); (try simp (disch := first | omega | (simp; omega)) only [World.cell?_alloc_past, World.cell?_drew] at hr4_0); (try simp (disch := first | omega | (simp; omega)) only [World.frozen?_alloc_past, World.frozen?_drew] at hs4_0); clear hc4 hf4)
      go_wp2
      exact bodyPost_ret (v := fbool 0) (by simp [results, Tryz.results64, go_sem, *]) rfl ⟨rfl, (by repeat (first | with_reducible exact Below.refl _ _ | with_reducible assumption | ((with_reducible refine Below.setCell ?_ ?_ _); rotate_left; (simp; try omega)) | (with_reducible refine Ext.tr ?_ (by with_reducible assumption)) | (with_reducible refine Ext.al ?_ _) | (with_reducible refine below_drewN ?_ _) | (with_reducible refine Below.drew ?_)))⟩
    · go_enter Tryz.func64, Tryz.ntmps64
      go_wp2_with fail
      refine (HF.out _ (by repeat (first | with_reducible exact Below.refl _ _ | with_reducible assumption | ((with_reducible refine Below.setCell ?_ ?_ _); rotate_left; (simp; try omega)) | (with_reducible refine Ext.tr ?_ (by with_reducible assumption)) | (with_reducible refine Ext.al ?_ _) | (with_reducible refine below_drewN ?_ _) | (with_reducible refine Below.drew ?_)))).mono ?_
      rintro e w1 ⟨rfl, rfl⟩
      go_wp2_with fail
      refine wp_loop_rounds 3 ?_
      rw [rounds_succ]
      go_wp2_with fail
      refine (HN0.out _ (by repeat (first | with_reducible exact Below.refl _ _ | with_reducible assumption | ((with_reducible refine Below.setCell ?_ ?_ _); rotate_left; (simp; try omega)) | (with_reducible refine Ext.tr ?_ (by with_reducible assumption)) | (with_reducible refine Ext.al ?_ _) | (with_reducible refine below_drewN ?_ _) | (with_reducible refine Below.drew ?_)))).mono ?_
      rintro e w2 ⟨rfl, rfl⟩
      go_wp2_with fail
      rw [rounds_succ]
      go_wp2_with fail
      refine (HN1.out _ (by repeat (first | with_reducible exact Below.refl _ _ | with_reducible assumption | ((with_reducible refine Below.setCell ?_ ?_ _); rotate_left; (simp; try omega)) | (with_reducible refine Ext.tr ?_ (by with_reducible assumption)) | (with_reducible refine Ext.al ?_ _) | (with_reducible refine below_drewN ?_ _) | (with_reducible refine Below.drew ?_)))).mono ?_
      rintro e w3 ⟨rfl, rfl⟩
      go_wp2_with fail
      rw [rounds_succ]
      go_wp2_with fail
      (go_wp2_with fail; refine (newBool_true _).mono ?_; rintro e w4 ⟨rfl, hb4⟩; obtain ⟨hc4, hf4, hz4⟩ := ext_facts hb4; (try simp at hz4); (have hq4_0 : w.heap.size < w4.heap.size := by omega); (have hl4_0 : w.heap.size ≤ w4.heap.size := by omega); (have hr4_0 := fun o => hc4 (w.heap.size) o (by first | omega | (simp; done) | (simp; omega))); (have hs4_0 := fun o => hf4 (w.heap.size) o (by first | omega | (simp; done) | (simp; omega))); (try simp (disch := first | omega | (simp; omega)) only [World.cell?_alloc_past, World.cell?_drew] at hr4_0); (try simp (disch := first | omega | (simp; omega)) only [World.frozen?_alloc_past, World.frozen?_drew] at hs4_0); clear hc4 hf4)
      go_wp2
      exact bodyPost_ret (v := fbool 4607182418800017408) (by simp [results, Tryz.results64, go_sem, *]) rfl ⟨rfl, (by repeat (first | with_reducible exact Below.refl _ _ | with_reducible assumption | ((with_reducible refine Below.setCell ?_ ?_ _); rotate_left; (simp; try omega)) | (with_reducible refine Ext.tr ?_ (by with_reducible assumption)) | (with_reducible refine Ext.al ?_ _) | (with_reducible refine below_drewN ?_ _) | (with_reducible refine Below.drew ?_)))⟩
  · cases r2
    · go_enter Tryz.func64, Tryz.ntmps64
      go_wp2_with fail
      refine (HF.out _ (by repeat (first | with_reducible exact Below.refl _ _ | with_reducible assumption | ((with_reducible refine Below.setCell ?_ ?_ _); rotate_left; (simp; try omega)) | (with_reducible refine Ext.tr ?_ (by with_reducible assumption)) | (with_reducible refine Ext.al ?_ _) | (with_reducible refine below_drewN ?_ _) | (with_reducible refine Below.drew ?_)))).mono ?_
      rintro e w1 ⟨rfl, rfl⟩
      go_wp2_with fail
      refine wp_loop_rounds 3 ?_
      rw [rounds_succ]
      go_wp2_with fail
      refine (HN0.out _ (by repeat (first | with_reducible exact Below.refl _ _ | with_reducible assumption | ((with_reducible refine Below.setCell ?_ ?_ _); rotate_left; (simp; try omega)) | (with_reducible refine Ext.tr ?_ (by with_reducible assumption)) | (with_reducible refine Ext.al ?_ _) | (with_reducible refine below_drewN ?_ _) | (with_reducible refine Below.drew ?_)))).mono ?_
      rintro e w2 ⟨rfl, rfl⟩
      go_wp2_with fail
      rw [rounds_succ]
      go_wp2_with fail
      refine (HN1.out _ (by repeat (first | with_reducible exact Below.refl _ _ | with_reducible assumption | ((with_reducible refine Below.setCell ?_ ?_ _); rotate_left; (simp; try omega)) | (with_reducible refine Ext.tr ?_ (by with_reducible assumption)) | (with_reducible refine Ext.al ?_ _) | (with_reducible refine below_drewN ?_ _) | (with_reducible refine Below.drew ?_)))).mono ?_
      rintro e w3 ⟨rfl, rfl⟩
      go_wp2_with fail
      rw [rounds_succ]
      go_wp2_with fail
      (go_wp2_with fail; refine (newBool_true _).mono ?_; rintro e w4 ⟨rfl, hb4⟩; obtain ⟨hc4, hf4, hz4⟩ := ext_facts hb4; (try simp at hz4); (have hq4_0 : w.heap.size < w4.heap.size := by omega); (have hl4_0 : w.heap.size ≤ w4.heap.size := by omega); (have hr4_0 := fun o => hc4 (w.heap.size) o (by first | omega | (simp; done) | (simp; omega))); (have hs4_0 := fun o => hf4 (w.heap.size) o (by first | omega | (simp; done) | (simp; omega))); (try simp (disch := first | omega | (simp; omega)) only [World.cell?_alloc_past, World.cell?_drew] at hr4_0); (try simp (disch := first | omega | (simp; omega)) only [World.frozen?_alloc_past, World.frozen?_drew] at hs4_0); clear hc4 hf4)
      go_wp2
      exact bodyPost_ret (v := fbool 4607182418800017408) (by simp [results, Tryz.results64, go_sem, *]) rfl ⟨rfl, (by repeat (first | with_reducible exact Below.refl _ _ | with_reducible assumption | ((with_reducible refine Below.setCell ?_ ?_ _); rotate_left; (simp; try omega)) | (with_reducible refine Ext.tr ?_ (by with_reducible assumption)) | (with_reducible refine Ext.al ?_ _) | (with_reducible refine below_drewN ?_ _) | (with_reducible refine Below.drew ?_)))⟩
    · go_enter Tryz.func64, Tryz.ntmps64
      go_wp2_with fail
      refine (HF.out _ (by repeat (first | with_reducible exact Below.refl _ _ | with_reducible assumption | ((with_reducible refine Below.setCell ?_ ?_ _); rotate_left; (simp; try omega)) | (with_reducible refine Ext.tr ?_ (by with_reducible assumption)) | (with_reducible refine Ext.al ?_ _) | (with_reducible refine below_drewN ?_ _) | (with_reducible refine Below.drew ?_)))).mono ?_
      rintro e w1 ⟨rfl, rfl⟩
      go_wp2_with fail
      refine wp_loop_rounds 3 ?_
      rw [rounds_succ]
      go_wp2_with fail
      refine (HN0.out _ (by repeat (first | with_reducible exact Below.refl _ _ | with_reducible assumption | ((with_reducible refine Below.setCell ?_ ?_ _); rotate_left; (simp; try omega)) | (with_reducible refine Ext.tr ?_ (by with_reducible assumption)) | (with_reducible refine Ext.al ?_ _) | (with_reducible refine below_drewN ?_ _) | (with_reducible refine Below.drew ?_)))).mono ?_
      rintro e w2 ⟨rfl, rfl⟩
      go_wp2_with fail
      rw [rounds_succ]
      go_wp2_with fail
      refine (HN1.out _ (by repeat (first | with_reducible exact Below.refl _ _ | with_reducible assumption | ((with_reducible refine Below.setCell ?_ ?_ _); rotate_left; (simp; try omega)) | (with_reducible refine Ext.tr ?_ (by with_reducible assumption)) | (with_reducible refine Ext.al ?_ _) | (with_reducible refine below_drewN ?_ _) | (with_reducible refine Below.drew ?_)))).mono ?_
      rintro e w3 ⟨rfl, rfl⟩
      go_wp2_with fail
      rw [rounds_succ]
      go_wp2_with fail
      (go_wp2_with fail; refine (newBool_false _).mono ?_; rintro e w4 ⟨rfl, hb4⟩; obtain ⟨hc4, hf4, hz4⟩ := ext_facts hb4; (try simp at hz4); (have hq4_0 : w.heap.size < w4.heap.size := by omega); (have hl4_0 : w.heap.size ≤ w4.heap.size := by omega); (have hr4_0 := fun o => hc4 (w.heap.size) o (by first | omega | (simp; done) | (simp; omega))); (have hs4_0 := fun o => hf4 (w.heap.size) o (by first | omega | (simp; done) | (simp; omega))); (try simp (disch := first | omega | (simp; omega)) only [World.cell?_alloc_past, World.cell?_drew] at hr4_0); (try simp (disch := first | omega | (simp; omega)) only [World.frozen?_alloc_past, World.frozen?_drew] at hs4_0); clear hc4 hf4)
      go_wp2
      exact bodyPost_ret (v := fbool 0) (by simp [results, Tryz.results64, go_sem, *]) rfl ⟨rfl, (by repeat (first | with_reducible exact Below.refl _ _ | with_reducible assumption | ((with_reducible refine Below.setCell ?_ ?_ _); rotate_left; (simp; try omega)) | (with_reducible refine Ext.tr ?_ (by with_reducible assumption)) | (with_reducible refine Ext.al ?_ _) | (with_reducible refine below_drewN ?_ _) | (with_reducible refine Below.drew ?_)))⟩

set_option maxHeartbeats 1600000 in
theorem fn_xor (r1 r2 : Bool) (fb b B : Nat) (w : World) (h : ArgsAt w b B [fboolC (oneW r1), fboolC (oneW r2)]) :
    Calls Tryz.prog 49 #[ptr fb, ptr b] w (Gives w (fbool (oneW (r1 != r2)))) := by
  have HA := Lib.hid h; clear h
  have HC := Lib.hid (fun w' h => calcXor_two r1 r2 b B w' h)
  generalize oneW (r1 != r2) = y at HC ⊢
  go_enter Tryz.func49, Tryz.ntmps49
  (go_wp2_with fail; refine (len_ok _ b B _ (HA.out.ext (by repeat (first | with_reducible exact Below.refl _ _ | with_reducible assumption | ((with_reducible refine Below.setCell ?_ ?_ _); rotate_left; (simp; try omega)) | (with_reducible refine Ext.tr ?_ (by with_reducible assumption)) | (with_reducible refine Ext.al ?_ _) | (with_reducible refine below_drewN ?_ _) | (with_reducible refine Below.drew ?_))))).mono ?_; rintro e w1 ⟨rfl, rfl⟩)
  (go_wp2_with fail; refine (HC.out _ (HA.out.ext (by repeat (first | with_reducible exact Below.refl _ _ | with_reducible assumption | ((with_reducible refine Below.setCell ?_ ?_ _); rotate_left; (simp; try omega)) | (with_reducible refine Ext.tr ?_ (by with_reducible assumption)) | (with_reducible refine Ext.al ?_ _) | (with_reducible refine below_drewN ?_ _) | (with_reducible refine Below.drew ?_))))).mono ?_; rintro e w2 ⟨rfl, hb2⟩; obtain ⟨hc2, hf2, hz2⟩ := ext_facts hb2; (try simp at hz2); (have hq2_0 : w.heap.size < w2.heap.size := by omega); (have hl2_0 : w.heap.size ≤ w2.heap.size := by omega); (have hr2_0 := fun o => hc2 (w.heap.size) o (by first | omega | (simp; done) | (simp; omega))); (have hs2_0 := fun o => hf2 (w.heap.size) o (by first | omega | (simp; done) | (simp; omega))); (try simp (disch := first | omega | (simp; omega)) only [World.cell?_alloc_past, World.cell?_drew] at hr2_0); (try simp (disch := first | omega | (simp; omega)) only [World.frozen?_alloc_past, World.frozen?_drew] at hs2_0); clear hc2 hf2)
  go_wp2
  exact bodyPost_ret (v := fbool y) (by simp [results, Tryz.results49, go_sem, *]) rfl ⟨rfl, (by repeat (first | with_reducible exact Below.refl _ _ | with_reducible assumption | ((with_reducible refine Below.setCell ?_ ?_ _); rotate_left; (simp; try omega)) | (with_reducible refine Ext.tr ?_ (by with_reducible assumption)) | (with_reducible refine Ext.al ?_ _) | (with_reducible refine below_drewN ?_ _) | (with_reducible refine Below.drew ?_)))⟩
end Go.Proofs.YtlbhebmjdaaglaaGreatDoor

namespace Go.Proofs.YtlbhebmjdaaglaaGreatDoor
set_option linter.unusedSimpArgs false
set_option linter.unusedVariables false
open Go Go.RowKit
set_option maxRecDepth 100000

set_option maxHeartbeats 800000 in
theorem door_ISNUMBER (inner : Iv → Array Value) (xs : List Iv) (y : Value) (z : Iv) (b o c : Nat) (w : World) (hl : xs.length ≤ 1000000000) (hx : LieI w b o xs)
    (hin : ∀ x w', x ∈ xs → Calls Tryz.prog 60 #[x.val] w' (Gives w' (.agg (inner x))))
    (hfn : ∀ w' fb p B, Ext w w' → ArgsAt w' p B (xs.map inner) → Calls Tryz.prog 43 #[ptr fb, ptr p] w' (Gives w' y))
    (hout : ∀ w', Calls Tryz.prog 41 #[y] w' (Gives w' z.val)) :
    Calls Tryz.prog 27 #[.slice (some ⟨b, o, none⟩) xs.length c] w (Gives w z.val) := by
  have HX := Lib.hid hx; clear hx
  have HI := Lib.hid hin; clear hin
  have HF := Lib.hid hfn; clear hfn
  have HO := Lib.hid hout; clear hout
  go_enter Tryz.func27, Tryz.ntmps27
  (go_wp2_with fail; refine (doorFuncs_any _).mono ?_; rintro e w1 ⟨⟨fb, rfl⟩, hb1⟩; obtain ⟨hc1, hf1, hz1⟩ := ext_facts hb1; (try simp at hz1); (have hq1_0 : w.heap.size < w1.heap.size := by omega); (have hl1_0 : w.heap.size ≤ w1.heap.size := by omega); (have hr1_0 := fun o => hc1 (w.heap.size) o (by first | omega | (simp; done) | (simp; omega))); (have hs1_0 := fun o => hf1 (w.heap.size) o (by first | omega | (simp; done) | (simp; omega))); (try simp (disch := first | omega | (simp; omega)) only [World.cell?_alloc_past, World.cell?_drew] at hr1_0); (try simp (disch := first | omega | (simp; omega)) only [World.frozen?_alloc_past, World.frozen?_drew] at hs1_0); clear hc1 hf1)
  (go_wp2_with fail; refine ((innerList_ok inner xs b o c _ hl (HX.out.ext (by repeat (first | with_reducible exact Below.refl _ _ | with_reducible assumption | ((with_reducible refine Below.setCell ?_ ?_ _); rotate_left; (simp; try omega)) | (with_reducible refine Ext.tr ?_ (by with_reducible assumption)) | (with_reducible refine Ext.al ?_ _) | (with_reducible refine below_drewN ?_ _) | (with_reducible refine Below.drew ?_)))) HI.out)).mono ?_; rintro e w2 ⟨p, rfl, hargs, hb2⟩; obtain ⟨hc2, hf2, hz2⟩ := ext_facts hb2; (try simp at hz2); (have hq2_0 : w.heap.size < w2.heap.size := by omega); (have hl2_0 : w.heap.size ≤ w2.heap.size := by omega); (have hr2_0 := fun o => hc2 (w.heap.size) o (by first | omega | (simp; done) | (simp; omega))); (have hs2_0 := fun o => hf2 (w.heap.size) o (by first | omega | (simp; done) | (simp; omega))); (try simp (disch := first | omega | (simp; omega)) only [World.cell?_alloc_past, World.cell?_drew] at hr2_0); (try simp (disch := first | omega | (simp; omega)) only [World.frozen?_alloc_past, World.frozen?_drew] at hs2_0); clear hc2 hf2)
  have HA := Lib.hid hargs; clear hargs
  (go_wp2_with fail; refine (HF.out w2 fb p _ (by repeat (first | with_reducible exact Below.refl _ _ | with_reducible assumption | ((with_reducible refine Below.setCell ?_ ?_ _); rotate_left; (simp; try omega)) | (with_reducible refine Ext.tr ?_ (by with_reducible assumption)) | (with_reducible refine Ext.al ?_ _) | (with_reducible refine below_drewN ?_ _) | (with_reducible refine Below.drew ?_))) HA.out).mono ?_; rintro e w3 ⟨rfl, hb3⟩; obtain ⟨hc3, hf3, hz3⟩ := ext_facts hb3; (try simp at hz3); (have hq3_0 : w.heap.size < w3.heap.size := by omega); (have hl3_0 : w.heap.size ≤ w3.heap.size := by omega); (have hr3_0 := fun o => hc3 (w.heap.size) o (by first | omega | (simp; done) | (simp; omega))); (have hs3_0 := fun o => hf3 (w.heap.size) o (by first | omega | (simp; done) | (simp; omega))); (try simp (disch := first | omega | (simp; omega)) only [World.cell?_alloc_past, World.cell?_drew] at hr3_0); (try simp (disch := first | omega | (simp; omega)) only [World.frozen?_alloc_past, World.frozen?_drew] at hs3_0); clear hc3 hf3)
  (go_wp2_with fail; refine (HO.out _).mono ?_; rintro e w4 ⟨rfl, hb4⟩; obtain ⟨hc4, hf4, hz4⟩ := ext_facts hb4; (try simp at hz4); (have hq4_0 : w.heap.size < w4.heap.size := by omega); (have hl4_0 : w.heap.size ≤ w4.heap.size := by omega); (have hr4_0 := fun o => hc4 (w.heap.size) o (by first | omega | (simp; done) | (simp; omega))); (have hs4_0 := fun o => hf4 (w.heap.size) o (by first | omega | (simp; done) | (simp; omega))); (try simp (disch := first | omega | (simp; omega)) only [World.cell?_alloc_past, World.cell?_drew] at hr4_0); (try simp (disch := first | omega | (simp; omega)) only [World.frozen?_alloc_past, World.frozen?_drew] at hs4_0); clear hc4 hf4)
  go_wp2
  exact bodyPost_ret (v := Iv.val z) (by simp [results, Tryz.results27, go_sem, *]) rfl ⟨rfl, (by repeat (first | with_reducible exact Below.refl _ _ | with_reducible assumption | ((with_reducible refine Below.setCell ?_ ?_ _); rotate_left; (simp; try omega)) | (with_reducible refine Ext.tr ?_ (by with_reducible assumption)) | (with_reducible refine Ext.al ?_ _) | (with_reducible refine below_drewN ?_ _) | (with_reducible refine Below.drew ?_)))⟩

set_option maxHeartbeats 800000 in
theorem impl_ISNUMBER (xs : List Iv) (z : Iv) (b c : Nat) (w : World) (hl : xs.length ≤ 1000000000) (hne : xs ≠ []) (hx : LieI w b 0 xs)
    (hdoor : ∀ w' b' c', Ext w w' → LieI w' b' 0 xs → Calls Tryz.prog 27 #[.slice (some ⟨b', 0, none⟩) xs.length c'] w' (Gives w' z.val)) :
    Calls Tryz.prog 8 #[.slice (some ⟨b, 0, none⟩) xs.length c] w (Gives w z.val) := by
  have HX := Lib.hid hx; clear hx
  have HD := Lib.hid hdoor; clear hdoor
  go_enter Tryz.func8, Tryz.ntmps8
  (go_wp2_with fail; refine (in_at xs b 0 c _ hl (HX.out.ext (by repeat (first | with_reducible exact Below.refl _ _ | with_reducible assumption | ((with_reducible refine Below.setCell ?_ ?_ _); rotate_left; (simp; try omega)) | (with_reducible refine Ext.tr ?_ (by with_reducible assumption)) | (with_reducible refine Ext.al ?_ _) | (with_reducible refine below_drewN ?_ _) | (with_reducible refine Below.drew ?_)))) hne).mono ?_; rintro e w1 ⟨b1, c1, rfl, hlie, hb1⟩; obtain ⟨hc1, hf1, hz1⟩ := ext_facts hb1; (try simp at hz1); (have hq1_0 : w.heap.size < w1.heap.size := by omega); (have hl1_0 : w.heap.size ≤ w1.heap.size := by omega); (have hr1_0 := fun o => hc1 (w.heap.size) o (by first | omega | (simp; done) | (simp; omega))); (have hs1_0 := fun o => hf1 (w.heap.size) o (by first | omega | (simp; done) | (simp; omega))); (try simp (disch := first | omega | (simp; omega)) only [World.cell?_alloc_past, World.cell?_drew] at hr1_0); (try simp (disch := first | omega | (simp; omega)) only [World.frozen?_alloc_past, World.frozen?_drew] at hs1_0); clear hc1 hf1)
  have HL := Lib.hid hlie; clear hlie
  (go_wp2_with fail; refine (HD.out _ b1 c1 (by repeat (first | with_reducible exact Below.refl _ _ | with_reducible assumption | ((with_reducible refine Below.setCell ?_ ?_ _); rotate_left; (simp; try omega)) | (with_reducible refine Ext.tr ?_ (by with_reducible assumption)) | (with_reducible refine Ext.al ?_ _) | (with_reducible refine below_drewN ?_ _) | (with_reducible refine Below.drew ?_))) HL.out).mono ?_; rintro e w2 ⟨rfl, hb2⟩; obtain ⟨hc2, hf2, hz2⟩ := ext_facts hb2; (try simp at hz2); (have hq2_0 : w.heap.size < w2.heap.size := by omega); (have hl2_0 : w.heap.size ≤ w2.heap.size := by omega); (have hr2_0 := fun o => hc2 (w.heap.size) o (by first | omega | (simp; done) | (simp; omega))); (have hs2_0 := fun o => hf2 (w.heap.size) o (by first | omega | (simp; done) | (simp; omega))); (try simp (disch := first | omega | (simp; omega)) only [World.cell?_alloc_past, World.cell?_drew] at hr2_0); (try simp (disch := first | omega | (simp; omega)) only [World.frozen?_alloc_past, World.frozen?_drew] at hs2_0); clear hc2 hf2)
  (go_wp2_with fail; refine (out_ok z _).mono ?_; rintro e w3 ⟨rfl, hb3⟩; obtain ⟨hc3, hf3, hz3⟩ := ext_facts hb3; (try simp at hz3); (have hq3_0 : w.heap.size < w3.heap.size := by omega); (have hl3_0 : w.heap.size ≤ w3.heap.size := by omega); (have hr3_0 := fun o => hc3 (w.heap.size) o (by first | omega | (simp; done) | (simp; omega))); (have hs3_0 := fun o => hf3 (w.heap.size) o (by first | omega | (simp; done) | (simp; omega))); (try simp (disch := first | omega | (simp; omega)) only [World.cell?_alloc_past, World.cell?_drew] at hr3_0); (try simp (disch := first | omega | (simp; omega)) only [World.frozen?_alloc_past, World.frozen?_drew] at hs3_0); clear hc3 hf3)
  go_wp2
  exact bodyPost_ret (v := Iv.val z) (by simp [results, Tryz.results8, go_sem, *]) rfl ⟨rfl, (by repeat (first | with_reducible exact Below.refl _ _ | with_reducible assumption | ((with_reducible refine Below.setCell ?_ ?_ _); rotate_left; (simp; try omega)) | (with_reducible refine Ext.tr ?_ (by with_reducible assumption)) | (with_reducible refine Ext.al ?_ _) | (with_reducible refine below_drewN ?_ _) | (with_reducible refine Below.drew ?_)))⟩

theorem pack_ISNUMBER (u : Iv) (v : Array Value) (r : Nat) (b c : Nat) (w : World) (hl : LieI w b 0 [u])
    (hin : ∀ w', Calls Tryz.prog 60 #[u.val] w' (Gives w' (.agg v)))
    (hfn : ∀ w' fb p B, Ext w w' → ArgsAt w' p B [v] → Calls Tryz.prog 43 #[ptr fb, ptr p] w' (Gives w' (fbool r))) :
    Calls Tryz.prog 8 #[.slice (some ⟨b, 0, none⟩) 1 c] w (Gives w (Iv.val ⟨3, r, ⟨#[]⟩⟩)) := by
  refine impl_ISNUMBER [u] ⟨3, r, ⟨#[]⟩⟩ b c w (by simp) (by simp) hl fun w2 b2 c2 hw2 hl2 => ?_
  refine door_ISNUMBER (fun _ => v) [u] (fbool r) ⟨3, r, ⟨#[]⟩⟩ b2 0 c2 w2 (by simp) hl2 (fun y w3 hy => ?_) (fun w3 fb p B hw3 ha2 => hfn w3 fb p B (hw2.tr hw3) ha2) (fun w3 => doorArg_bool r w3)
  have e : y = u := by simpa using hy
  subst e; exact hin w3

set_option maxHeartbeats 800000 in
theorem door_ISLOGICAL (inner : Iv → Array Value) (xs : List Iv) (y : Value) (z : Iv) (b o c : Nat) (w : World) (hl : xs.length ≤ 1000000000) (hx : LieI w b o xs)
    (hin : ∀ x w', x ∈ xs → Calls Tryz.prog 60 #[x.val] w' (Gives w' (.agg (inner x))))
    (hfn : ∀ w' fb p B, Ext w w' → ArgsAt w' p B (xs.map inner) → Calls Tryz.prog 46 #[ptr fb, ptr p] w' (Gives w' y))
    (hout : ∀ w', Calls Tryz.prog 41 #[y] w' (Gives w' z.val)) :
    Calls Tryz.prog 30 #[.slice (some ⟨b, o, none⟩) xs.length c] w (Gives w z.val) := by
  have HX := Lib.hid hx; clear hx
  have HI := Lib.hid hin; clear hin
  have HF := Lib.hid hfn; clear hfn
  have HO := Lib.hid hout; clear hout
  go_enter Tryz.func30, Tryz.ntmps30
  (go_wp2_with fail; refine (doorFuncs_any _).mono ?_; rintro e w1 ⟨⟨fb, rfl⟩, hb1⟩; obtain ⟨hc1, hf1, hz1⟩ := ext_facts hb1; (try simp at hz1); (have hq1_0 : w.heap.size < w1.heap.size := by omega); (have hl1_0 : w.heap.size ≤ w1.heap.size := by omega); (have hr1_0 := fun o => hc1 (w.heap.size) o (by first | omega | (simp; done) | (simp; omega))); (have hs1_0 := fun o => hf1 (w.heap.size) o (by first | omega | (simp; done) | (simp; omega))); (try simp (disch := first | omega | (simp; omega)) only [World.cell?_alloc_past, World.cell?_drew] at hr1_0); (try simp (disch := first | omega | (simp; omega)) only [World.frozen?_alloc_past, World.frozen?_drew] at hs1_0); clear hc1 hf1)
  (go_wp2_with fail; refine ((innerList_ok inner xs b o c _ hl (HX.out.ext (by repeat (first | with_reducible exact Below.refl _ _ | with_reducible assumption | ((with_reducible refine Below.setCell ?_ ?_ _); rotate_left; (simp; try omega)) | (with_reducible refine Ext.tr ?_ (by with_reducible assumption)) | (with_reducible refine Ext.al ?_ _) | (with_reducible refine below_drewN ?_ _) | (with_reducible refine Below.drew ?_)))) HI.out)).mono ?_; rintro e w2 ⟨p, rfl, hargs, hb2⟩; obtain ⟨hc2, hf2, hz2⟩ := ext_facts hb2; (try simp at hz2); (have hq2_0 : w.heap.size < w2.heap.size := by omega); (have hl2_0 : w.heap.size ≤ w2.heap.size := by omega); (have hr2_0 := fun o => hc2 (w.heap.size) o (by first | omega | (simp; done) | (simp; omega))); (have hs2_0 := fun o => hf2 (w.heap.size) o (by first | omega | (simp; done) | (simp; omega))); (try simp (disch := first | omega | (simp; omega)) only [World.cell?_alloc_past, World.cell?_drew] at hr2_0); (try simp (disch := first | omega | (simp; omega)) only [World.frozen?_alloc_past, World.frozen?_drew] at hs2_0); clear hc2 hf2)
  have HA := Lib.hid hargs; clear hargs
  (go_wp2_with fail; refine (HF.out w2 fb p _ (by repeat (first | with_reducible exact Below.refl _ _ | with_reducible assumption | ((with_reducible refine Below.setCell ?_ ?_ _); rotate_left; (simp; try omega)) | (with_reducible refine Ext.tr ?_ (by with_reducible assumption)) | (with_reducible refine Ext.al ?_ _) | (with_reducible refine below_drewN ?_ _) | (with_reducible refine Below.drew ?_))) HA.out).mono ?_; rintro e w3 ⟨rfl, hb3⟩; obtain ⟨hc3, hf3, hz3⟩ := ext_facts hb3; (try simp at hz3); (have hq3_0 : w.heap.size < w3.heap.size := by omega); (have hl3_0 : w.heap.size ≤ w3.heap.size := by omega); (have hr3_0 := fun o => hc3 (w.heap.size) o (by first | omega | (simp; done) | (simp; omega))); (have hs3_0 := fun o => hf3 (w.heap.size) o (by first | omega | (simp; done) | (simp; omega))); (try simp (disch := first | omega | (simp; omega)) only [World.cell?_alloc_past, World.cell?_drew] at hr3_0); (try simp (disch := first | omega | (simp; omega)) only [World.frozen?_alloc_past, World.frozen?_drew] at hs3_0); clear hc3 hf3)
  (go_wp2_with fail; refine (HO.out _).mono ?_; rintro e w4 ⟨rfl, hb4⟩; obtain ⟨hc4, hf4, hz4⟩ := ext_facts hb4; (try simp at hz4); (have hq4_0 : w.heap.size < w4.heap.size := by omega); (have hl4_0 : w.heap.size ≤ w4.heap.size := by omega); (have hr4_0 := fun o => hc4 (w.heap.size) o (by first | omega | (simp; done) | (simp; omega))); (have hs4_0 := fun o => hf4 (w.heap.size) o (by first | omega | (simp; done) | (simp; omega))); (try simp (disch := first | omega | (simp; omega)) only [World.cell?_alloc_past, World.cell?_drew] at hr4_0); (try simp (disch := first | omega | (simp; omega)) only [World.frozen?_alloc_past, World.frozen?_drew] at hs4_0); clear hc4 hf4)
  go_wp2
  exact bodyPost_ret (v := Iv.val z) (by simp [results, Tryz.results30, go_sem, *]) rfl ⟨rfl, (by repeat (first | with_reducible exact Below.refl _ _ | with_reducible assumption | ((with_reducible refine Below.setCell ?_ ?_ _); rotate_left; (simp; try omega)) | (with_reducible refine Ext.tr ?_ (by with_reducible assumption)) | (with_reducible refine Ext.al ?_ _) | (with_reducible refine below_drewN ?_ _) | (with_reducible refine Below.drew ?_)))⟩

set_option maxHeartbeats 800000 in
theorem impl_ISLOGICAL (xs : List Iv) (z : Iv) (b c : Nat) (w : World) (hl : xs.length ≤ 1000000000) (hne : xs ≠ []) (hx : LieI w b 0 xs)
    (hdoor : ∀ w' b' c', Ext w w' → LieI w' b' 0 xs → Calls Tryz.prog 30 #[.slice (some ⟨b', 0, none⟩) xs.length c'] w' (Gives w' z.val)) :
    Calls Tryz.prog 10 #[.slice (some ⟨b, 0, none⟩) xs.length c] w (Gives w z.val) := by
  have HX := Lib.hid hx; clear hx
  have HD := Lib.hid hdoor; clear hdoor
  go_enter Tryz.func10, Tryz.ntmps10
  (go_wp2_with fail; refine (in_at xs b 0 c _ hl (HX.out.ext (by repeat (first | with_reducible exact Below.refl _ _ | with_reducible assumption | ((with_reducible refine Below.setCell ?_ ?_ _); rotate_left; (simp; try omega)) | (with_reducible refine Ext.tr ?_ (by with_reducible assumption)) | (with_reducible refine Ext.al ?_ _) | (with_reducible refine below_drewN ?_ _) | (with_reducible refine Below.drew ?_)))) hne).mono ?_; rintro e w1 ⟨b1, c1, rfl, hlie, hb1⟩; obtain ⟨hc1, hf1, hz1⟩ := ext_facts hb1; (try simp at hz1); (have hq1_0 : w.heap.size < w1.heap.size := by omega); (have hl1_0 : w.heap.size ≤ w1.heap.size := by omega); (have hr1_0 := fun o => hc1 (w.heap.size) o (by first | omega | (simp; done) | (simp; omega))); (have hs1_0 := fun o => hf1 (w.heap.size) o (by first | omega | (simp; done) | (simp; omega))); (try simp (disch := first | omega | (simp; omega)) only [World.cell?_alloc_past, World.cell?_drew] at hr1_0); (try simp (disch := first | omega | (simp; omega)) only [World.frozen?_alloc_past, World.frozen?_drew] at hs1_0); clear hc1 hf1)
  have HL := Lib.hid hlie; clear hlie
  (go_wp2_with fail; refine (HD.out _ b1 c1 (by repeat (first | with_reducible exact Below.refl _ _ | with_reducible assumption | ((with_reducible refine Below.setCell ?_ ?_ _); rotate_left; (simp; try omega)) | (with_reducible refine Ext.tr ?_ (by with_reducible assumption)) | (with_reducible refine Ext.al ?_ _) | (with_reducible refine below_drewN ?_ _) | (with_reducible refine Below.drew ?_))) HL.out).mono ?_; rintro e w2 ⟨rfl, hb2⟩; obtain ⟨hc2, hf2, hz2⟩ := ext_facts hb2; (try simp at hz2); (have hq2_0 : w.heap.size < w2.heap.size := by omega); (have hl2_0 : w.heap.size ≤ w2.heap.size := by omega); (have hr2_0 := fun o => hc2 (w.heap.size) o (by first | omega | (simp; done) | (simp; omega))); (have hs2_0 := fun o => hf2 (w.heap.size) o (by first | omega | (simp; done) | (simp; omega))); (try simp (disch := first | omega | (simp; omega)) only [World.cell?_alloc_past, World.cell?_drew] at hr2_0); (try simp (disch := first | omega | (simp; omega)) only [World.frozen?_alloc_past, World.frozen?_drew] at hs2_0); clear hc2 hf2)
  (go_wp2_with fail; refine (out_ok z _).mono ?_; rintro e w3 ⟨rfl, hb3⟩; obtain ⟨hc3, hf3, hz3⟩ := ext_facts hb3; (try simp at hz3); (have hq3_0 : w.heap.size < w3.heap.size := by omega); (have hl3_0 : w.heap.size ≤ w3.heap.size := by omega); (have hr3_0 := fun o => hc3 (w.heap.size) o (by first | omega | (simp; done) | (simp; omega))); (have hs3_0 := fun o => hf3 (w.heap.size) o (by first | omega | (simp; done) | (simp; omega))); (try simp (disch := first | omega | (simp; omega)) only [World.cell?_alloc_past, World.cell?_drew] at hr3_0); (try simp (disch := first | omega | (simp; omega)) only [World.frozen?_alloc_past, World.frozen?_drew] at hs3_0); clear hc3 hf3)
  go_wp2
  exact bodyPost_ret (v := Iv.val z) (by simp [results, Tryz.results10, go_sem, *]) rfl ⟨rfl, (by repeat (first | with_reducible exact Below.refl _ _ | with_reducible assumption | ((with_reducible refine Below.setCell ?_ ?_ _); rotate_left; (simp; try omega)) | (with_reducible refine Ext.tr ?_ (by with_reducible assumption)) | (with_reducible refine Ext.al ?_ _) | (with_reducible refine below_drewN ?_ _) | (with_reducible refine Below.drew ?_)))⟩

theorem pack_ISLOGICAL (u : Iv) (v : Array Value) (r : Nat) (b c : Nat) (w : World) (hl : LieI w b 0 [u])
    (hin : ∀ w', Calls Tryz.prog 60 #[u.val] w' (Gives w' (.agg v)))
    (hfn : ∀ w' fb p B, Ext w w' → ArgsAt w' p B [v] → Calls Tryz.prog 46 #[ptr fb, ptr p] w' (Gives w' (fbool r))) :
    Calls Tryz.prog 10 #[.slice (some ⟨b, 0, none⟩) 1 c] w (Gives w (Iv.val ⟨3, r, ⟨#[]⟩⟩)) := by
  refine impl_ISLOGICAL [u] ⟨3, r, ⟨#[]⟩⟩ b c w (by simp) (by simp) hl fun w2 b2 c2 hw2 hl2 => ?_
  refine door_ISLOGICAL (fun _ => v) [u] (fbool r) ⟨3, r, ⟨#[]⟩⟩ b2 0 c2 w2 (by simp) hl2 (fun y w3 hy => ?_) (fun w3 fb p B hw3 ha2 => hfn w3 fb p B (hw2.tr hw3) ha2) (fun w3 => doorArg_bool r w3)
  have e : y = u := by simpa using hy
  subst e; exact hin w3

set_option maxHeartbeats 800000 in
theorem door_ISBLANK (inner : Iv → Array Value) (xs : List Iv) (y : Value) (z : Iv) (b o c : Nat) (w : World) (hl : xs.length ≤ 1000000000) (hx : LieI w b o xs)
    (hin : ∀ x w', x ∈ xs → Calls Tryz.prog 60 #[x.val] w' (Gives w' (.agg (inner x))))
    (hfn : ∀ w' fb p B, Ext w w' → ArgsAt w' p B (xs.map inner) → Calls Tryz.prog 47 #[ptr fb, ptr p] w' (Gives w' y))
    (hout : ∀ w', Calls Tryz.prog 41 #[y] w' (Gives w' z.val)) :
    Calls Tryz.prog 31 #[.slice (some ⟨b, o, none⟩) xs.length c] w (Gives w z.val) := by
  have HX := Lib.hid hx; clear hx
  have HI := Lib.hid hin; clear hin
  have HF := Lib.hid hfn; clear hfn
  have HO := Lib.hid hout; clear hout
  go_enter Tryz.func31, Tryz.ntmps31
  (go_wp2_with fail; refine (doorFuncs_any _).mono ?_; rintro e w1 ⟨⟨fb, rfl⟩, hb1⟩; obtain ⟨hc1, hf1, hz1⟩ := ext_facts hb1; (try simp at hz1); (have hq1_0 : w.heap.size < w1.heap.size := by omega); (have hl1_0 : w.heap.size ≤ w1.heap.size := by omega); (have hr1_0 := fun o => hc1 (w.heap.size) o (by first | omega | (simp; done) | (simp; omega))); (have hs1_0 := fun o => hf1 (w.heap.size) o (by first | omega | (simp; done) | (simp; omega))); (try simp (disch := first | omega | (simp; omega)) only [World.cell?_alloc_past, World.cell?_drew] at hr1_0); (try simp (disch := first | omega | (simp; omega)) only [World.frozen?_alloc_past, World.frozen?_drew] at hs1_0); clear hc1 hf1)
  (go_wp2_with fail; refine ((innerList_ok inner xs b o c _ hl (HX.out.ext (by repeat (first | with_reducible exact Below.refl _ _ | with_reducible assumption | ((with_reducible refine Below.setCell ?_ ?_ _); rotate_left; (simp; try omega)) | (with_reducible refine Ext.tr ?_ (by with_reducible assumption)) | (with_reducible refine Ext.al ?_ _) | (with_reducible refine below_drewN ?_ _) | (with_reducible refine Below.drew ?_)))) HI.out)).mono ?_; rintro e w2 ⟨p, rfl, hargs, hb2⟩; obtain ⟨hc2, hf2, hz2⟩ := ext_facts hb2; (try simp at hz2); (have hq2_0 : w.heap.size < w2.heap.size := by omega); (have hl2_0 : w.heap.size ≤ w2.heap.size := by omega); (have hr2_0 := fun o => hc2 (w.heap.size) o (by first | omega | (simp; done) | (simp; omega))); (have hs2_0 := fun o => hf2 (w.heap.size) o (by first | omega | (simp; done) | (simp; omega))); (try simp (disch := first | omega | (simp; omega)) only [World.cell?_alloc_past, World.cell?_drew] at hr2_0); (try simp (disch := first | omega | (simp; omega)) only [World.frozen?_alloc_past, World.frozen?_drew] at hs2_0); clear hc2 hf2)
  have HA := Lib.hid hargs; clear hargs
  (go_wp2_with fail; refine (HF.out w2 fb p _ (by repeat (first | with_reducible exact Below.refl _ _ | with_reducible assumption | ((with_reducible refine Below.setCell ?_ ?_ _); rotate_left; (simp; try omega)) | (with_reducible refine Ext.tr ?_ (by with_reducible assumption)) | (with_reducible refine Ext.al ?_ _) | (with_reducible refine below_drewN ?_ _) | (with_reducible refine Below.drew ?_))) HA.out).mono ?_; rintro e w3 ⟨rfl, hb3⟩; obtain ⟨hc3, hf3, hz3⟩ := ext_facts hb3; (try simp at hz3); (have hq3_0 : w.heap.size < w3.heap.size := by omega); (have hl3_0 : w.heap.size ≤ w3.heap.size := by omega); (have hr3_0 := fun o => hc3 (w.heap.size) o (by first | omega | (simp; done) | (simp; omega))); (have hs3_0 := fun o => hf3 (w.heap.size) o (by first | omega | (simp; done) | (simp; omega))); (try simp (disch := first | omega | (simp; omega)) only [World.cell?_alloc_past, World.cell?_drew] at hr3_0); (try simp (disch := first | omega | (simp; omega)) only [World.frozen?_alloc_past, World.frozen?_drew] at hs3_0); clear hc3 hf3)
  (go_wp2_with fail; refine (HO.out _).mono ?_; rintro e w4 ⟨rfl, hb4⟩; obtain ⟨hc4, hf4, hz4⟩ := ext_facts hb4; (try simp at hz4); (have hq4_0 : w.heap.size < w4.heap.size := by omega); (have hl4_0 : w.heap.size ≤ w4.heap.size := by omega); (have hr4_0 := fun o => hc4 (w.heap.size) o (by first | omega | (simp; done) | (simp; omega))); (have hs4_0 := fun o => hf4 (w.heap.size) o (by first | omega | (simp; done) | (simp; omega))); (try simp (disch := first | omega | (simp; omega)) only [World.cell?_alloc_past, World.cell?_drew] at hr4_0); (try simp (disch := first | omega | (simp; omega)) only [World.frozen?_alloc_past, World.frozen?_drew] at hs4_0); clear hc4 hf4)
  go_wp2
  exact bodyPost_ret (v := Iv.val z) (by simp [results, Tryz.results31, go_sem, *]) rfl ⟨rfl, (by repeat (first | with_reducible exact Below.refl _ _ | with_reducible assumption | ((with_reducible refine Below.setCell ?_ ?_ _); rotate_left; (simp; try omega)) | (with_reducible refine Ext.tr ?_ (by with_reducible assumption)) | (with_reducible refine Ext.al ?_ _) | (with_reducible refine below_drewN ?_ _) | (with_reducible refine Below.drew ?_)))⟩

set_option maxHeartbeats 800000 in
theorem impl_ISBLANK (xs : List Iv) (z : Iv) (b c : Nat) (w : World) (hl : xs.length ≤ 1000000000) (hne : xs ≠ []) (hx : LieI w b 0 xs)
    (hdoor : ∀ w' b' c', Ext w w' → LieI w' b' 0 xs → Calls Tryz.prog 31 #[.slice (some ⟨b', 0, none⟩) xs.length c'] w' (Gives w' z.val)) :
    Calls Tryz.prog 11 #[.slice (some ⟨b, 0, none⟩) xs.length c] w (Gives w z.val) := by
  have HX := Lib.hid hx; clear hx
  have HD := Lib.hid hdoor; clear hdoor
  go_enter Tryz.func11, Tryz.ntmps11
  (go_wp2_with fail; refine (in_at xs b 0 c _ hl (HX.out.ext (by repeat (first | with_reducible exact Below.refl _ _ | with_reducible assumption | ((with_reducible refine Below.setCell ?_ ?_ _); rotate_left; (simp; try omega)) | (with_reducible refine Ext.tr ?_ (by with_reducible assumption)) | (with_reducible refine Ext.al ?_ _) | (with_reducible refine below_drewN ?_ _) | (with_reducible refine Below.drew ?_)))) hne).mono ?_; rintro e w1 ⟨b1, c1, rfl, hlie, hb1⟩; obtain ⟨hc1, hf1, hz1⟩ := ext_facts hb1; (try simp at hz1); (have hq1_0 : w.heap.size < w1.heap.size := by omega); (have hl1_0 : w.heap.size ≤ w1.heap.size := by omega); (have hr1_0 := fun o => hc1 (w.heap.size) o (by first | omega | (simp; done) | (simp; omega))); (have hs1_0 := fun o => hf1 (w.heap.size) o (by first | omega | (simp; done) | (simp; omega))); (try simp (disch := first | omega | (simp; omega)) only [World.cell?_alloc_past, World.cell?_drew] at hr1_0); (try simp (disch := first | omega | (simp; omega)) only [World.frozen?_alloc_past, World.frozen?_drew] at hs1_0); clear hc1 hf1)
  have HL := Lib.hid hlie; clear hlie
  (go_wp2_with fail; refine (HD.out _ b1 c1 (by repeat (first | with_reducible exact Below.refl _ _ | with_reducible assumption | ((with_reducible refine Below.setCell ?_ ?_ _); rotate_left; (simp; try omega)) | (with_reducible refine Ext.tr ?_ (by with_reducible assumption)) | (with_reducible refine Ext.al ?_ _) | (with_reducible refine below_drewN ?_ _) | (with_reducible refine Below.drew ?_))) HL.out).mono ?_; rintro e w2 ⟨rfl, hb2⟩; obtain ⟨hc2, hf2, hz2⟩ := ext_facts hb2; (try simp at hz2); (have hq2_0 : w.heap.size < w2.heap.size := by omega); (have hl2_0 : w.heap.size ≤ w2.heap.size := by omega); (have hr2_0 := fun o => hc2 (w.heap.size) o (by first | omega | (simp; done) | (simp; omega))); (have hs2_0 := fun o => hf2 (w.heap.size) o (by first | omega | (simp; done) | (simp; omega))); (try simp (disch := first | omega | (simp; omega)) only [World.cell?_alloc_past, World.cell?_drew] at hr2_0); (try simp (disch := first | omega | (simp; omega)) only [World.frozen?_alloc_past, World.frozen?_drew] at hs2_0); clear hc2 hf2)
  (go_wp2_with fail; refine (out_ok z _).mono ?_; rintro e w3 ⟨rfl, hb3⟩; obtain ⟨hc3, hf3, hz3⟩ := ext_facts hb3; (try simp at hz3); (have hq3_0 : w.heap.size < w3.heap.size := by omega); (have hl3_0 : w.heap.size ≤ w3.heap.size := by omega); (have hr3_0 := fun o => hc3 (w.heap.size) o (by first | omega | (simp; done) | (simp; omega))); (have hs3_0 := fun o => hf3 (w.heap.size) o (by first | omega | (simp; done) | (simp; omega))); (try simp (disch := first | omega | (simp; omega)) only [World.cell?_alloc_past, World.cell?_drew] at hr3_0); (try simp (disch := first | omega | (simp; omega)) only [World.frozen?_alloc_past, World.frozen?_drew] at hs3_0); clear hc3 hf3)
  go_wp2
  exact bodyPost_ret (v := Iv.val z) (by simp [results, Tryz.results11, go_sem, *]) rfl ⟨rfl, (by repeat (first | with_reducible exact Below.refl _ _ | with_reducible assumption | ((with_reducible refine Below.setCell ?_ ?_ _); rotate_left; (simp; try omega)) | (with_reducible refine Ext.tr ?_ (by with_reducible assumption)) | (with_reducible refine Ext.al ?_ _) | (with_reducible refine below_drewN ?_ _) | (with_reducible refine Below.drew ?_)))⟩

theorem pack_ISBLANK (u : Iv) (v : Array Value) (r : Nat) (b c : Nat) (w : World) (hl : LieI w b 0 [u])
    (hin : ∀ w', Calls Tryz.prog 60 #[u.val] w' (Gives w' (.agg v)))
    (hfn : ∀ w' fb p B, Ext w w' → ArgsAt w' p B [v] → Calls Tryz.prog 47 #[ptr fb, ptr p] w' (Gives w' (fbool r))) :
    Calls Tryz.prog 11 #[.slice (some ⟨b, 0, none⟩) 1 c] w (Gives w (Iv.val ⟨3, r, ⟨#[]⟩⟩)) := by
  refine impl_ISBLANK [u] ⟨3, r, ⟨#[]⟩⟩ b c w (by simp) (by simp) hl fun w2 b2 c2 hw2 hl2 => ?_
  refine door_ISBLANK (fun _ => v) [u] (fbool r) ⟨3, r, ⟨#[]⟩⟩ b2 0 c2 w2 (by simp) hl2 (fun y w3 hy => ?_) (fun w3 fb p B hw3 ha2 => hfn w3 fb p B (hw2.tr hw3) ha2) (fun w3 => doorArg_bool r w3)
  have e : y = u := by simpa using hy
  subst e; exact hin w3

set_option maxHeartbeats 800000 in
theorem door_ISERROR (inner : Iv → Array Value) (xs : List Iv) (y : Value) (z : Iv) (b o c : Nat) (w : World) (hl : xs.length ≤ 1000000000) (hx : LieI w b o xs)
    (hin : ∀ x w', x ∈ xs → Calls Tryz.prog 60 #[x.val] w' (Gives w' (.agg (inner x))))
    (hfn : ∀ w' fb p B, Ext w w' → ArgsAt w' p B (xs.map inner) → Calls Tryz.prog 48 #[ptr fb, ptr p] w' (Gives w' y))
    (hout : ∀ w', Calls Tryz.prog 41 #[y] w' (Gives w' z.val)) :
    Calls Tryz.prog 32 #[.slice (some ⟨b, o, none⟩) xs.length c] w (Gives w z.val) := by
  have HX := Lib.hid hx; clear hx
  have HI := Lib.hid hin; clear hin
  have HF := Lib.hid hfn; clear hfn
  have HO := Lib.hid hout; clear hout
  go_enter Tryz.func32, Tryz.ntmps32
  (go_wp2_with fail; refine (doorFuncs_any _).mono ?_; rintro e w1 ⟨⟨fb, rfl⟩, hb1⟩; obtain ⟨hc1, hf1, hz1⟩ := ext_facts hb1; (try simp at hz1); (have hq1_0 : w.heap.size < w1.heap.size := by omega); (have hl1_0 : w.heap.size ≤ w1.heap.size := by omega); (have hr1_0 := fun o => hc1 (w.heap.size) o (by first | omega | (simp; done) | (simp; omega))); (have hs1_0 := fun o => hf1 (w.heap.size) o (by first | omega | (simp; done) | (simp; omega))); (try simp (disch := first | omega | (simp; omega)) only [World.cell?_alloc_past, World.cell?_drew] at hr1_0); (try simp (disch := first | omega | (simp; omega)) only [World.frozen?_alloc_past, World.frozen?_drew] at hs1_0); clear hc1 hf1)
  (go_wp2_with fail; refine ((innerList_ok inner xs b o c _ hl (HX.out.ext (by repeat (first | with_reducible exact Below.refl _ _ | with_reducible assumption | ((with_reducible refine Below.setCell ?_ ?_ _); rotate_left; (simp; try omega)) | (with_reducible refine Ext.tr ?_ (by with_reducible assumption)) | (with_reducible refine Ext.al ?_ _) | (with_reducible refine below_drewN ?_ _) | (with_reducible refine Below.drew ?_)))) HI.out)).mono ?_; rintro e w2 ⟨p, rfl, hargs, hb2⟩; obtain ⟨hc2, hf2, hz2⟩ := ext_facts hb2; (try simp at hz2); (have hq2_0 : w.heap.size < w2.heap.size := by omega); (have hl2_0 : w.heap.size ≤ w2.heap.size := by omega); (have hr2_0 := fun o => hc2 (w.heap.size) o (by first | omega | (simp; done) | (simp; omega))); (have hs2_0 := fun o => hf2 (w.heap.size) o (by first | omega | (simp; done) | (simp; omega))); (try simp (disch := first | omega | (simp; omega)) only [World.cell?_alloc_past, World.cell?_drew] at hr2_0); (try simp (disch := first | omega | (simp; omega)) only [World.frozen?_alloc_past, World.frozen?_drew] at hs2_0); clear hc2 hf2)
  have HA := Lib.hid hargs; clear hargs
  (go_wp2_with fail; refine (HF.out w2 fb p _ (by repeat (first | with_reducible exact Below.refl _ _ | with_reducible assumption | ((with_reducible refine Below.setCell ?_ ?_ _); rotate_left; (simp; try omega)) | (with_reducible refine Ext.tr ?_ (by with_reducible assumption)) | (with_reducible refine Ext.al ?_ _) | (with_reducible refine below_drewN ?_ _) | (with_reducible refine Below.drew ?_))) HA.out).mono ?_; rintro e w3 ⟨rfl, hb3⟩; obtain ⟨hc3, hf3, hz3⟩ := ext_facts hb3; (try simp at hz3); (have hq3_0 : w.heap.size < w3.heap.size := by omega); (have hl3_0 : w.heap.size ≤ w3.heap.size := by omega); (have hr3_0 := fun o => hc3 (w.heap.size) o (by first | omega | (simp; done) | (simp; omega))); (have hs3_0 := fun o => hf3 (w.heap.size) o (by first | omega | (simp; done) | (simp; omega))); (try simp (disch := first | omega | (simp; omega)) only [World.cell?_alloc_past, World.cell?_drew] at hr3_0); (try simp (disch := first | omega | (simp; omega)) only [World.frozen?_alloc_past, World.frozen?_drew] at hs3_0); clear hc3 hf3)
  (go_wp2_with fail; refine (HO.out _).mono ?_; rintro e w4 ⟨rfl, hb4⟩; obtain ⟨hc4, hf4, hz4⟩ := ext_facts hb4; (try simp at hz4); (have hq4_0 : w.heap.size < w4.heap.size := by omega); (have hl4_0 : w.heap.size ≤ w4.heap.size := by omega); (have hr4_0 := fun o => hc4 (w.heap.size) o (by first | omega | (simp; done) | (simp; omega))); (have hs4_0 := fun o => hf4 (w.heap.size) o (by first | omega | (simp; done) | (simp; omega))); (try simp (disch := first | omega | (simp; omega)) only [World.cell?_alloc_past, World.cell?_drew] at hr4_0); (try simp (disch := first | omega | (simp; omega)) only [World.frozen?_alloc_past, World.frozen?_drew] at hs4_0); clear hc4 hf4)
  go_wp2
  exact bodyPost_ret (v := Iv.val z) (by simp [results, Tryz.results32, go_sem, *]) rfl ⟨rfl, (by repeat (first | with_reducible exact Below.refl _ _ | with_reducible assumption | ((with_reducible refine Below.setCell ?_ ?_ _); rotate_left; (simp; try omega)) | (with_reducible refine Ext.tr ?_ (by with_reducible assumption)) | (with_reducible refine Ext.al ?_ _) | (with_reducible refine below_drewN ?_ _) | (with_reducible refine Below.drew ?_)))⟩

set_option maxHeartbeats 800000 in
theorem impl_ISERROR (xs : List Iv) (z : Iv) (b c : Nat) (w : World) (hl : xs.length ≤ 1000000000) (hne : xs ≠ []) (hx : LieI w b 0 xs)
    (hdoor : ∀ w' b' c', Ext w w' → LieI w' b' 0 xs → Calls Tryz.prog 32 #[.slice (some ⟨b', 0, none⟩) xs.length c'] w' (Gives w' z.val)) :
    Calls Tryz.prog 12 #[.slice (some ⟨b, 0, none⟩) xs.length c] w (Gives w z.val) := by
  have HX := Lib.hid hx; clear hx
  have HD := Lib.hid hdoor; clear hdoor
  go_enter Tryz.func12, Tryz.ntmps12
  (go_wp2_with fail; refine (in_at xs b 0 c _ hl (HX.out.ext (by repeat (first | with_reducible exact Below.refl _ _ | with_reducible assumption | ((with_reducible refine Below.setCell ?_ ?_ _); rotate_left; (simp; try omega)) | (with_reducible refine Ext.tr ?_ (by with_reducible assumption)) | (with_reducible refine Ext.al ?_ _) | (with_reducible refine below_drewN ?_ _) | (with_reducible refine Below.drew ?_)))) hne).mono ?_; rintro e w1 ⟨b1, c1, rfl, hlie, hb1⟩; obtain ⟨hc1, hf1, hz1⟩ := ext_facts hb1; (try simp at hz1); (have hq1_0 : w.heap.size < w1.heap.size := by omega); (have hl1_0 : w.heap.size ≤ w1.heap.size := by omega); (have hr1_0 := fun o => hc1 (w.heap.size) o (by first | omega | (simp; done) | (simp; omega))); (have hs1_0 := fun o => hf1 (w.heap.size) o (by first | omega | (simp; done) | (simp; omega))); (try simp (disch := first | omega | (simp; omega)) only [World.cell?_alloc_past, World.cell?_drew] at hr1_0); (try simp (disch := first | omega | (simp; omega)) only [World.frozen?_alloc_past, World.frozen?_drew] at hs1_0); clear hc1 hf1)
  have HL := Lib.hid hlie; clear hlie
  (go_wp2_with fail; refine (HD.out _ b1 c1 (by repeat (first | with_reducible exact Below.refl _ _ | with_reducible assumption | ((with_reducible refine Below.setCell ?_ ?_ _); rotate_left; (simp; try omega)) | (with_reducible refine Ext.tr ?_ (by with_reducible assumption)) | (with_reducible refine Ext.al ?_ _) | (with_reducible refine below_drewN ?_ _) | (with_reducible refine Below.drew ?_))) HL.out).mono ?_; rintro e w2 ⟨rfl, hb2⟩; obtain ⟨hc2, hf2, hz2⟩ := ext_facts hb2; (try simp at hz2); (have hq2_0 : w.heap.size < w2.heap.size := by omega); (have hl2_0 : w.heap.size ≤ w2.heap.size := by omega); (have hr2_0 := fun o => hc2 (w.heap.size) o (by first | omega | (simp; done) | (simp; omega))); (have hs2_0 := fun o => hf2 (w.heap.size) o (by first | omega | (simp; done) | (simp; omega))); (try simp (disch := first | omega | (simp; omega)) only [World.cell?_alloc_past, World.cell?_drew] at hr2_0); (try simp (disch := first | omega | (simp; omega)) only [World.frozen?_alloc_past, World.frozen?_drew] at hs2_0); clear hc2 hf2)
  (go_wp2_with fail; refine (out_ok z _).mono ?_; rintro e w3 ⟨rfl, hb3⟩; obtain ⟨hc3, hf3, hz3⟩ := ext_facts hb3; (try simp at hz3); (have hq3_0 : w.heap.size < w3.heap.size := by omega); (have hl3_0 : w.heap.size ≤ w3.heap.size := by omega); (have hr3_0 := fun o => hc3 (w.heap.size) o (by first | omega | (simp; done) | (simp; omega))); (have hs3_0 := fun o => hf3 (w.heap.size) o (by first | omega | (simp; done) | (simp; omega))); (try simp (disch := first | omega | (simp; omega)) only [World.cell?_alloc_past, World.cell?_drew] at hr3_0); (try simp (disch := first | omega | (simp; omega)) only [World.frozen?_alloc_past, World.frozen?_drew] at hs3_0); clear hc3 hf3)
  go_wp2
  exact bodyPost_ret (v := Iv.val z) (by simp [results, Tryz.results12, go_sem, *]) rfl ⟨rfl, (by repeat (first | with_reducible exact Below.refl _ _ | with_reducible assumption | ((with_reducible refine Below.setCell ?_ ?_ _); rotate_left; (simp; try omega)) | (with_reducible refine Ext.tr ?_ (by with_reducible assumption)) | (with_reducible refine Ext.al ?_ _) | (with_reducible refine below_drewN ?_ _) | (with_reducible refine Below.drew ?_)))⟩

theorem pack_ISERROR (u : Iv) (v : Array Value) (r : Nat) (b c : Nat) (w : World) (hl : LieI w b 0 [u])
    (hin : ∀ w', Calls Tryz.prog 60 #[u.val] w' (Gives w' (.agg v)))
    (hfn : ∀ w' fb p B, Ext w w' → ArgsAt w' p B [v] → Calls Tryz.prog 48 #[ptr fb, ptr p] w' (Gives w' (fbool r))) :
    Calls Tryz.prog 12 #[.slice (some ⟨b, 0, none⟩) 1 c] w (Gives w (Iv.val ⟨3, r, ⟨#[]⟩⟩)) := by
  refine impl_ISERROR [u] ⟨3, r, ⟨#[]⟩⟩ b c w (by simp) (by simp) hl fun w2 b2 c2 hw2 hl2 => ?_
  refine door_ISERROR (fun _ => v) [u] (fbool r) ⟨3, r, ⟨#[]⟩⟩ b2 0 c2 w2 (by simp) hl2 (fun y w3 hy => ?_) (fun w3 fb p B hw3 ha2 => hfn w3 fb p B (hw2.tr hw3) ha2) (fun w3 => doorArg_bool r w3)
  have e : y = u := by simpa using hy
  subst e; exact hin w3

set_option maxHeartbeats 800000 in
theorem door_ISERR (inner : Iv → Array Value) (xs : List Iv) (y : Value) (z : Iv) (b o c : Nat) (w : World) (hl : xs.length ≤ 1000000000) (hx : LieI w b o xs)
    (hin : ∀ x w', x ∈ xs → Calls Tryz.prog 60 #[x.val] w' (Gives w' (.agg (inner x))))
    (hfn : ∀ w' fb p B, Ext w w' → ArgsAt w' p B (xs.map inner) → Calls Tryz.prog 50 #[ptr fb, ptr p] w' (Gives w' y))
    (hout : ∀ w', Calls Tryz.prog 41 #[y] w' (Gives w' z.val)) :
    Calls Tryz.prog 34 #[.slice (some ⟨b, o, none⟩) xs.length c] w (Gives w z.val) := by
  have HX := Lib.hid hx; clear hx
  have HI := Lib.hid hin; clear hin
  have HF := Lib.hid hfn; clear hfn
  have HO := Lib.hid hout; clear hout
  go_enter Tryz.func34, Tryz.ntmps34
  (go_wp2_with fail; refine (doorFuncs_any _).mono ?_; rintro e w1 ⟨⟨fb, rfl⟩, hb1⟩; obtain ⟨hc1, hf1, hz1⟩ := ext_facts hb1; (try simp at hz1); (have hq1_0 : w.heap.size < w1.heap.size := by omega); (have hl1_0 : w.heap.size ≤ w1.heap.size := by omega); (have hr1_0 := fun o => hc1 (w.heap.size) o (by first | omega | (simp; done) | (simp; omega))); (have hs1_0 := fun o => hf1 (w.heap.size) o (by first | omega | (simp; done) | (simp; omega))); (try simp (disch := first | omega | (simp; omega)) only [World.cell?_alloc_past, World.cell?_drew] at hr1_0); (try simp (disch := first | omega | (simp; omega)) only [World.frozen?_alloc_past, World.frozen?_drew] at hs1_0); clear hc1 hf1)
  (go_wp2_with fail; refine ((innerList_ok inner xs b o c _ hl (HX.out.ext (by repeat (first | with_reducible exact Below.refl _ _ | with_reducible assumption | ((with_reducible refine Below.setCell ?_ ?_ _); rotate_left; (simp; try omega)) | (with_reducible refine Ext.tr ?_ (by with_reducible assumption)) | (with_reducible refine Ext.al ?_ _) | (with_reducible refine below_drewN ?_ _) | (with_reducible refine Below.drew ?_)))) HI.out)).mono ?_; rintro e w2 ⟨p, rfl, hargs, hb2⟩; obtain ⟨hc2, hf2, hz2⟩ := ext_facts hb2; (try simp at hz2); (have hq2_0 : w.heap.size < w2.heap.size := by omega); (have hl2_0 : w.heap.size ≤ w2.heap.size := by omega); (have hr2_0 := fun o => hc2 (w.heap.size) o (by first | omega | (simp; done) | (simp; omega))); (have hs2_0 := fun o => hf2 (w.heap.size) o (by first | omega | (simp; done) | (simp; omega))); (try simp (disch := first | omega | (simp; omega)) only [World.cell?_alloc_past, World.cell?_drew] at hr2_0); (try simp (disch := first | omega | (simp; omega)) only [World.frozen?_alloc_past, World.frozen?_drew] at hs2_0); clear hc2 hf2)
  have HA := Lib.hid hargs; clear hargs
  (go_wp2_with fail; refine (HF.out w2 fb p _ (by repeat (first | with_reducible exact Below.refl _ _ | with_reducible assumption | ((with_reducible refine Below.setCell ?_ ?_ _); rotate_left; (simp; try omega)) | (with_reducible refine Ext.tr ?_ (by with_reducible assumption)) | (with_reducible refine Ext.al ?_ _) | (with_reducible refine below_drewN ?_ _) | (with_reducible refine Below.drew ?_))) HA.out).mono ?_; rintro e w3 ⟨rfl, hb3⟩; obtain ⟨hc3, hf3, hz3⟩ := ext_facts hb3; (try simp at hz3); (have hq3_0 : w.heap.size < w3.heap.size := by omega); (have hl3_0 : w.heap.size ≤ w3.heap.size := by omega); (have hr3_0 := fun o => hc3 (w.heap.size) o (by first | omega | (simp; done) | (simp; omega))); (have hs3_0 := fun o => hf3 (w.heap.size) o (by first | omega | (simp; done) | (simp; omega))); (try simp (disch := first | omega | (simp; omega)) only [World.cell?_alloc_past, World.cell?_drew] at hr3_0); (try simp (disch := first | omega | (simp; omega)) only [World.frozen?_alloc_past, World.frozen?_drew] at hs3_0); clear hc3 hf3)
  (go_wp2_with fail; refine (HO.out _).mono ?_; rintro e w4 ⟨rfl, hb4⟩; obtain ⟨hc4, hf4, hz4⟩ := ext_facts hb4; (try simp at hz4); (have hq4_0 : w.heap.size < w4.heap.size := by omega); (have hl4_0 : w.heap.size ≤ w4.heap.size := by omega); (have hr4_0 := fun o => hc4 (w.heap.size) o (by first | omega | (simp; done) | (simp; omega))); (have hs4_0 := fun o => hf4 (w.heap.size) o (by first | omega | (simp; done) | (simp; omega))); (try simp (disch := first | omega | (simp; omega)) only [World.cell?_alloc_past, World.cell?_drew] at hr4_0); (try simp (disch := first | omega | (simp; omega)) only [World.frozen?_alloc_past, World.frozen?_drew] at hs4_0); clear hc4 hf4)
  go_wp2
  exact bodyPost_ret (v := Iv.val z) (by simp [results, Tryz.results34, go_sem, *]) rfl ⟨rfl, (by repeat (first | with_reducible exact Below.refl _ _ | with_reducible assumption | ((with_reducible refine Below.setCell ?_ ?_ _); rotate_left; (simp; try omega)) | (with_reducible refine Ext.tr ?_ (by with_reducible assumption)) | (with_reducible refine Ext.al ?_ _) | (with_reducible refine below_drewN ?_ _) | (with_reducible refine Below.drew ?_)))⟩

set_option maxHeartbeats 800000 in
theorem impl_ISERR (xs : List Iv) (z : Iv) (b c : Nat) (w : World) (hl : xs.length ≤ 1000000000) (hne : xs ≠ []) (hx : LieI w b 0 xs)
    (hdoor : ∀ w' b' c', Ext w w' → LieI w' b' 0 xs → Calls Tryz.prog 34 #[.slice (some ⟨b', 0, none⟩) xs.length c'] w' (Gives w' z.val)) :
    Calls Tryz.prog 15 #[.slice (some ⟨b, 0, none⟩) xs.length c] w (Gives w z.val) := by
  have HX := Lib.hid hx; clear hx
  have HD := Lib.hid hdoor; clear hdoor
  go_enter Tryz.func15, Tryz.ntmps15
  (go_wp2_with fail; refine (in_at xs b 0 c _ hl (HX.out.ext (by repeat (first | with_reducible exact Below.refl _ _ | with_reducible assumption | ((with_reducible refine Below.setCell ?_ ?_ _); rotate_left; (simp; try omega)) | (with_reducible refine Ext.tr ?_ (by with_reducible assumption)) | (with_reducible refine Ext.al ?_ _) | (with_reducible refine below_drewN ?_ _) | (with_reducible refine Below.drew ?_)))) hne).mono ?_; rintro e w1 ⟨b1, c1, rfl, hlie, hb1⟩; obtain ⟨hc1, hf1, hz1⟩ := ext_facts hb1; (try simp at hz1); (have hq1_0 : w.heap.size < w1.heap.size := by omega); (have hl1_0 : w.heap.size ≤ w1.heap.size := by omega); (have hr1_0 := fun o => hc1 (w.heap.size) o (by first | omega | (simp; done) | (simp; omega))); (have hs1_0 := fun o => hf1 (w.heap.size) o (by first | omega | (simp; done) | (simp; omega))); (try simp (disch := first | omega | (simp; omega)) only [World.cell?_alloc_past, World.cell?_drew] at hr1_0); (try simp (disch := first | omega | (simp; omega)) only [World.frozen?_alloc_past, World.frozen?_drew] at hs1_0); clear hc1 hf1)
  have HL := Lib.hid hlie; clear hlie
  (go_wp2_with fail; refine (HD.out _ b1 c1 (by repeat (first | with_reducible exact Below.refl _ _ | with_reducible assumption | ((with_reducible refine Below.setCell ?_ ?_ _); rotate_left; (simp; try omega)) | (with_reducible refine Ext.tr ?_ (by with_reducible assumption)) | (with_reducible refine Ext.al ?_ _) | (with_reducible refine below_drewN ?_ _) | (with_reducible refine Below.drew ?_))) HL.out).mono ?_; rintro e w2 ⟨rfl, hb2⟩; obtain ⟨hc2, hf2, hz2⟩ := ext_facts hb2; (try simp at hz2); (have hq2_0 : w.heap.size < w2.heap.size := by omega); (have hl2_0 : w.heap.size ≤ w2.heap.size := by omega); (have hr2_0 := fun o => hc2 (w.heap.size) o (by first | omega | (simp; done) | (simp; omega))); (have hs2_0 := fun o => hf2 (w.heap.size) o (by first | omega | (simp; done) | (simp; omega))); (try simp (disch := first | omega | (simp; omega)) only [World.cell?_alloc_past, World.cell?_drew] at hr2_0); (try simp (disch := first | omega | (simp; omega)) only [World.frozen?_alloc_past, World.frozen?_drew] at hs2_0); clear hc2 hf2)
  (go_wp2_with fail; refine (out_ok z _).mono ?_; rintro e w3 ⟨rfl, hb3⟩; obtain ⟨hc3, hf3, hz3⟩ := ext_facts hb3; (try simp at hz3); (have hq3_0 : w.heap.size < w3.heap.size := by omega); (have hl3_0 : w.heap.size ≤ w3.heap.size := by omega); (have hr3_0 := fun o => hc3 (w.heap.size) o (by first | omega | (simp; done) | (simp; omega))); (have hs3_0 := fun o => hf3 (w.heap.size) o (by first | omega | (simp; done) | (simp; omega))); (try simp (disch := first | omega | (simp; omega)) only [World.cell?_alloc_past, World.cell?_drew] at hr3_0); (try simp (disch := first | omega | (simp; omega)) only [World.frozen?_alloc_past, World.frozen?_drew] at hs3_0); clear hc3 hf3)
  go_wp2
  exact bodyPost_ret (v := Iv.val z) (by simp [results, Tryz.results15, go_sem, *]) rfl ⟨rfl, (by repeat (first | with_reducible exact Below.refl _ _ | with_reducible assumption | ((with_reducible refine Below.setCell ?_ ?_ _); rotate_left; (simp; try omega)) | (with_reducible refine Ext.tr ?_ (by with_reducible assumption)) | (with_reducible refine Ext.al ?_ _) | (with_reducible refine below_drewN ?_ _) | (with_reducible refine Below.drew ?_)))⟩

theorem pack_ISERR (u : Iv) (v : Array Value) (r : Nat) (b c : Nat) (w : World) (hl : LieI w b 0 [u])
    (hin : ∀ w', Calls Tryz.prog 60 #[u.val] w' (Gives w' (.agg v)))
    (hfn : ∀ w' fb p B, Ext w w' → ArgsAt w' p B [v] → Calls Tryz.prog 50 #[ptr fb, ptr p] w' (Gives w' (fbool r))) :
    Calls Tryz.prog 15 #[.slice (some ⟨b, 0, none⟩) 1 c] w (Gives w (Iv.val ⟨3, r, ⟨#[]⟩⟩)) := by
  refine impl_ISERR [u] ⟨3, r, ⟨#[]⟩⟩ b c w (by simp) (by simp) hl fun w2 b2 c2 hw2 hl2 => ?_
  refine door_ISERR (fun _ => v) [u] (fbool r) ⟨3, r, ⟨#[]⟩⟩ b2 0 c2 w2 (by simp) hl2 (fun y w3 hy => ?_) (fun w3 fb p B hw3 ha2 => hfn w3 fb p B (hw2.tr hw3) ha2) (fun w3 => doorArg_bool r w3)
  have e : y = u := by simpa using hy
  subst e; exact hin w3

set_option maxHeartbeats 800000 in
theorem door_ISNA (inner : Iv → Array Value) (xs : List Iv) (y : Value) (z : Iv) (b o c : Nat) (w : World) (hl : xs.length ≤ 1000000000) (hx : LieI w b o xs)
    (hin : ∀ x w', x ∈ xs → Calls Tryz.prog 60 #[x.val] w' (Gives w' (.agg (inner x))))
    (hfn : ∀ w' fb p B, Ext w w' → ArgsAt w' p B (xs.map inner) → Calls Tryz.prog 51 #[ptr fb, ptr p] w' (Gives w' y))
    (hout : ∀ w', Calls Tryz.prog 41 #[y] w' (Gives w' z.val)) :
    Calls Tryz.prog 35 #[.slice (some ⟨b, o, none⟩) xs.length c] w (Gives w z.val) := by
  have HX := Lib.hid hx; clear hx
  have HI := Lib.hid hin; clear hin
  have HF := Lib.hid hfn; clear hfn
  have HO := Lib.hid hout; clear hout
  go_enter Tryz.func35, Tryz.ntmps35
  (go_wp2_with fail; refine (doorFuncs_any _).mono ?_; rintro e w1 ⟨⟨fb, rfl⟩, hb1⟩; obtain ⟨hc1, hf1, hz1⟩ := ext_facts hb1; (try simp at hz1); (have hq1_0 : w.heap.size < w1.heap.size := by omega); (have hl1_0 : w.heap.size ≤ w1.heap.size := by omega); (have hr1_0 := fun o => hc1 (w.heap.size) o (by first | omega | (simp; done) | (simp; omega))); (have hs1_0 := fun o => hf1 (w.heap.size) o (by first | omega | (simp; done) | (simp; omega))); (try simp (disch := first | omega | (simp; omega)) only [World.cell?_alloc_past, World.cell?_drew] at hr1_0); (try simp (disch := first | omega | (simp; omega)) only [World.frozen?_alloc_past, World.frozen?_drew] at hs1_0); clear hc1 hf1)
  (go_wp2_with fail; refine ((innerList_ok inner xs b o c _ hl (HX.out.ext (by repeat (first | with_reducible exact Below.refl _ _ | with_reducible assumption | ((with_reducible refine Below.setCell ?_ ?_ _); rotate_left; (simp; try omega)) | (with_reducible refine Ext.tr ?_ (by with_reducible assumption)) | (with_reducible refine Ext.al ?_ _) | (with_reducible refine below_drewN ?_ _) | (with_reducible refine Below.drew ?_)))) HI.out)).mono ?_; rintro e w2 ⟨p, rfl, hargs, hb2⟩; obtain ⟨hc2, hf2, hz2⟩ := ext_facts hb2; (try simp at hz2); (have hq2_0 : w.heap.size < w2.heap.size := by omega); (have hl2_0 : w.heap.size ≤ w2.heap.size := by omega); (have hr2_0 := fun o => hc2 (w.heap.size) o (by first | omega | (simp; done) | (simp; omega))); (have hs2_0 := fun o => hf2 (w.heap.size) o (by first | omega | (simp; done) | (simp; omega))); (try simp (disch := first | omega | (simp; omega)) only [World.cell?_alloc_past, World.cell?_drew] at hr2_0); (try simp (disch := first | omega | (simp; omega)) only [World.frozen?_alloc_past, World.frozen?_drew] at hs2_0); clear hc2 hf2)
  have HA := Lib.hid hargs; clear hargs
  (go_wp2_with fail; refine (HF.out w2 fb p _ (by repeat (first | with_reducible exact Below.refl _ _ | with_reducible assumption | ((with_reducible refine Below.setCell ?_ ?_ _); rotate_left; (simp; try omega)) | (with_reducible refine Ext.tr ?_ (by with_reducible assumption)) | (with_reducible refine Ext.al ?_ _) | (with_reducible refine below_drewN ?_ _) | (with_reducible refine Below.drew ?_))) HA.out).mono ?_; rintro e w3 ⟨rfl, hb3⟩; obtain ⟨hc3, hf3, hz3⟩ := ext_facts hb3; (try simp at hz3); (have hq3_0 : w.heap.size < w3.heap.size := by omega); (have hl3_0 : w.heap.size ≤ w3.heap.size := by omega); (have hr3_0 := fun o => hc3 (w.heap.size) o (by first | omega | (simp; done) | (simp; omega))); (have hs3_0 := fun o => hf3 (w.heap.size) o (by first | omega | (simp; done) | (simp; omega))); (try simp (disch := first | omega | (simp; omega)) only [World.cell?_alloc_past, World.cell?_drew] at hr3_0); (try simp (disch := first | omega | (simp; omega)) only [World.frozen?_alloc_past, World.frozen?_drew] at hs3_0); clear hc3 hf3)
  (go_wp2_with fail; refine (HO.out _).mono ?_; rintro e w4 ⟨rfl, hb4⟩; obtain ⟨hc4, hf4, hz4⟩ := ext_facts hb4; (try simp at hz4); (have hq4_0 : w.heap.size < w4.heap.size := by omega); (have hl4_0 : w.heap.size ≤ w4.heap.size := by omega); (have hr4_0 := fun o => hc4 (w.heap.size) o (by first | omega | (simp; done) | (simp; omega))); (have hs4_0 := fun o => hf4 (w.heap.size) o (by first | omega | (simp; done) | (simp; omega))); (try simp (disch := first | omega | (simp; omega)) only [World.cell?_alloc_past, World.cell?_drew] at hr4_0); (try simp (disch := first | omega | (simp; omega)) only [World.frozen?_alloc_past, World.frozen?_drew] at hs4_0); clear hc4 hf4)
  go_wp2
  exact bodyPost_ret (v := Iv.val z) (by simp [results, Tryz.results35, go_sem, *]) rfl ⟨rfl, (by repeat (first | with_reducible exact Below.refl _ _ | with_reducible assumption | ((with_reducible refine Below.setCell ?_ ?_ _); rotate_left; (simp; try omega)) | (with_reducible refine Ext.tr ?_ (by with_reducible assumption)) | (with_reducible refine Ext.al ?_ _) | (with_reducible refine below_drewN ?_ _) | (with_reducible refine Below.drew ?_)))⟩

set_option maxHeartbeats 800000 in
theorem impl_ISNA (xs : List Iv) (z : Iv) (b c : Nat) (w : World) (hl : xs.length ≤ 1000000000) (hne : xs ≠ []) (hx : LieI w b 0 xs)
    (hdoor : ∀ w' b' c', Ext w w' → LieI w' b' 0 xs → Calls Tryz.prog 35 #[.slice (some ⟨b', 0, none⟩) xs.length c'] w' (Gives w' z.val)) :
    Calls Tryz.prog 16 #[.slice (some ⟨b, 0, none⟩) xs.length c] w (Gives w z.val) := by
  have HX := Lib.hid hx; clear hx
  have HD := Lib.hid hdoor; clear hdoor
  go_enter Tryz.func16, Tryz.ntmps16
  (go_wp2_with fail; refine (in_at xs b 0 c _ hl (HX.out.ext (by repeat (first | with_reducible exact Below.refl _ _ | with_reducible assumption | ((with_reducible refine Below.setCell ?_ ?_ _); rotate_left; (simp; try omega)) | (with_reducible refine Ext.tr ?_ (by with_reducible assumption)) | (with_reducible refine Ext.al ?_ _) | (with_reducible refine below_drewN ?_ _) | (with_reducible refine Below.drew ?_)))) hne).mono ?_; rintro e w1 ⟨b1, c1, rfl, hlie, hb1⟩; obtain ⟨hc1, hf1, hz1⟩ := ext_facts hb1; (try simp at hz1); (have hq1_0 : w.heap.size < w1.heap.size := by omega); (have hl1_0 : w.heap.size ≤ w1.heap.size := by omega); (have hr1_0 := fun o => hc1 (w.heap.size) o (by first | omega | (simp; done) | (simp; omega))); (have hs1_0 := fun o => hf1 (w.heap.size) o (by first | omega | (simp; done) | (simp; omega))); (try simp (disch := first | omega | (simp; omega)) only [World.cell?_alloc_past, World.cell?_drew] at hr1_0); (try simp (disch := first | omega | (simp; omega)) only [World.frozen?_alloc_past, World.frozen?_drew] at hs1_0); clear hc1 hf1)
  have HL := Lib.hid hlie; clear hlie
  (go_wp2_with fail; refine (HD.out _ b1 c1 (by repeat (first | with_reducible exact Below.refl _ _ | with_reducible assumption | ((with_reducible refine Below.setCell ?_ ?_ _); rotate_left; (simp; try omega)) | (with_reducible refine Ext.tr ?_ (by with_reducible assumption)) | (with_reducible refine Ext.al ?_ _) | (with_reducible refine below_drewN ?_ _) | (with_reducible refine Below.drew ?_))) HL.out).mono ?_; rintro e w2 ⟨rfl, hb2⟩; obtain ⟨hc2, hf2, hz2⟩ := ext_facts hb2; (try simp at hz2); (have hq2_0 : w.heap.size < w2.heap.size := by omega); (have hl2_0 : w.heap.size ≤ w2.heap.size := by omega); (have hr2_0 := fun o => hc2 (w.heap.size) o (by first | omega | (simp; done) | (simp; omega))); (have hs2_0 := fun o => hf2 (w.heap.size) o (by first | omega | (simp; done) | (simp; omega))); (try simp (disch := first | omega | (simp; omega)) only [World.cell?_alloc_past, World.cell?_drew] at hr2_0); (try simp (disch := first | omega | (simp; omega)) only [World.frozen?_alloc_past, World.frozen?_drew] at hs2_0); clear hc2 hf2)
  (go_wp2_with fail; refine (out_ok z _).mono ?_; rintro e w3 ⟨rfl, hb3⟩; obtain ⟨hc3, hf3, hz3⟩ := ext_facts hb3; (try simp at hz3); (have hq3_0 : w.heap.size < w3.heap.size := by omega); (have hl3_0 : w.heap.size ≤ w3.heap.size := by omega); (have hr3_0 := fun o => hc3 (w.heap.size) o (by first | omega | (simp; done) | (simp; omega))); (have hs3_0 := fun o => hf3 (w.heap.size) o (by first | omega | (simp; done) | (simp; omega))); (try simp (disch := first | omega | (simp; omega)) only [World.cell?_alloc_past, World.cell?_drew] at hr3_0); (try simp (disch := first | omega | (simp; omega)) only [World.frozen?_alloc_past, World.frozen?_drew] at hs3_0); clear hc3 hf3)
  go_wp2
  exact bodyPost_ret (v := Iv.val z) (by simp [results, Tryz.results16, go_sem, *]) rfl ⟨rfl, (by repeat (first | with_reducible exact Below.refl _ _ | with_reducible assumption | ((with_reducible refine Below.setCell ?_ ?_ _); rotate_left; (simp; try omega)) | (with_reducible refine Ext.tr ?_ (by with_reducible assumption)) | (with_reducible refine Ext.al ?_ _) | (with_reducible refine below_drewN ?_ _) | (with_reducible refine Below.drew ?_)))⟩

theorem pack_ISNA (u : Iv) (v : Array Value) (r : Nat) (b c : Nat) (w : World) (hl : LieI w b 0 [u])
    (hin : ∀ w', Calls Tryz.prog 60 #[u.val] w' (Gives w' (.agg v)))
    (hfn : ∀ w' fb p B, Ext w w' → ArgsAt w' p B [v] → Calls Tryz.prog 51 #[ptr fb, ptr p] w' (Gives w' (fbool r))) :
    Calls Tryz.prog 16 #[.slice (some ⟨b, 0, none⟩) 1 c] w (Gives w (Iv.val ⟨3, r, ⟨#[]⟩⟩)) := by
  refine impl_ISNA [u] ⟨3, r, ⟨#[]⟩⟩ b c w (by simp) (by simp) hl fun w2 b2 c2 hw2 hl2 => ?_
  refine door_ISNA (fun _ => v) [u] (fbool r) ⟨3, r, ⟨#[]⟩⟩ b2 0 c2 w2 (by simp) hl2 (fun y w3 hy => ?_) (fun w3 fb p B hw3 ha2 => hfn w3 fb p B (hw2.tr hw3) ha2) (fun w3 => doorArg_bool r w3)
  have e : y = u := by simpa using hy
  subst e; exact hin w3

theorem pack_ISTEXT (u : Iv) (v : Array Value) (r : Nat) (b c : Nat) (w : World) (hl : LieI w b 0 [u])
    (hin : ∀ w', Calls Tryz.prog 60 #[u.val] w' (Gives w' (.agg v)))
    (hfn : ∀ w' fb p B, Ext w w' → ArgsAt w' p B [v] → Calls Tryz.prog 45 #[ptr fb, ptr p] w' (Gives w' (fbool r))) :
    Calls Tryz.prog 9 #[.slice (some ⟨b, 0, none⟩) 1 c] w (Gives w (Iv.val ⟨3, r, ⟨#[]⟩⟩)) := by
  refine impl_ISTEXT [u] ⟨3, r, ⟨#[]⟩⟩ b c w (by simp) (by simp) hl fun w2 b2 c2 hw2 hl2 => ?_
  refine door_ISTEXT (fun _ => v) [u] (fbool r) ⟨3, r, ⟨#[]⟩⟩ b2 0 c2 w2 (by simp) hl2 (fun y w3 hy => ?_) (fun w3 fb p B hw3 ha2 => hfn w3 fb p B (hw2.tr hw3) ha2) (fun w3 => doorArg_bool r w3)
  have e : y = u := by simpa using hy
  subst e; exact hin w3

set_option maxHeartbeats 800000 in
theorem door_XOR (inner : Iv → Array Value) (xs : List Iv) (y : Value) (z : Iv) (b o c : Nat) (w : World) (hl : xs.length ≤ 1000000000) (hx : LieI w b o xs)
    (hin : ∀ x w', x ∈ xs → Calls Tryz.prog 60 #[x.val] w' (Gives w' (.agg (inner x))))
    (hfn : ∀ w' fb p B, Ext w w' → ArgsAt w' p B (xs.map inner) → Calls Tryz.prog 49 #[ptr fb, ptr p] w' (Gives w' y))
    (hout : ∀ w', Calls Tryz.prog 41 #[y] w' (Gives w' z.val)) :
    Calls Tryz.prog 33 #[.slice (some ⟨b, o, none⟩) xs.length c] w (Gives w z.val) := by
  have HX := Lib.hid hx; clear hx
  have HI := Lib.hid hin; clear hin
  have HF := Lib.hid hfn; clear hfn
  have HO := Lib.hid hout; clear hout
  go_enter Tryz.func33, Tryz.ntmps33
  (go_wp2_with fail; refine (doorFuncs_any _).mono ?_; rintro e w1 ⟨⟨fb, rfl⟩, hb1⟩; obtain ⟨hc1, hf1, hz1⟩ := ext_facts hb1; (try simp at hz1); (have hq1_0 : w.heap.size < w1.heap.size := by omega); (have hl1_0 : w.heap.size ≤ w1.heap.size := by omega); (have hr1_0 := fun o => hc1 (w.heap.size) o (by first | omega | (simp; done) | (simp; omega))); (have hs1_0 := fun o => hf1 (w.heap.size) o (by first | omega | (simp; done) | (simp; omega))); (try simp (disch := first | omega | (simp; omega)) only [World.cell?_alloc_past, World.cell?_drew] at hr1_0); (try simp (disch := first | omega | (simp; omega)) only [World.frozen?_alloc_past, World.frozen?_drew] at hs1_0); clear hc1 hf1)
  (go_wp2_with fail; refine ((innerList_ok inner xs b o c _ hl (HX.out.ext (by repeat (first | with_reducible exact Below.refl _ _ | with_reducible assumption | ((with_reducible refine Below.setCell ?_ ?_ _); rotate_left; (simp; try omega)) | (with_reducible refine Ext.tr ?_ (by with_reducible assumption)) | (with_reducible refine Ext.al ?_ _) | (with_reducible refine below_drewN ?_ _) | (with_reducible refine Below.drew ?_)))) HI.out)).mono ?_; rintro e w2 ⟨p, rfl, hargs, hb2⟩; obtain ⟨hc2, hf2, hz2⟩ := ext_facts hb2; (try simp at hz2); (have hq2_0 : w.heap.size < w2.heap.size := by omega); (have hl2_0 : w.heap.size ≤ w2.heap.size := by omega); (have hr2_0 := fun o => hc2 (w.heap.size) o (by first | omega | (simp; done) | (simp; omega))); (have hs2_0 := fun o => hf2 (w.heap.size) o (by first | omega | (simp; done) | (simp; omega))); (try simp (disch := first | omega | (simp; omega)) only [World.cell?_alloc_past, World.cell?_drew] at hr2_0); (try simp (disch := first | omega | (simp; omega)) only [World.frozen?_alloc_past, World.frozen?_drew] at hs2_0); clear hc2 hf2)
  have HA := Lib.hid hargs; clear hargs
  (go_wp2_with fail; refine (HF.out w2 fb p _ (by repeat (first | with_reducible exact Below.refl _ _ | with_reducible assumption | ((with_reducible refine Below.setCell ?_ ?_ _); rotate_left; (simp; try omega)) | (with_reducible refine Ext.tr ?_ (by with_reducible assumption)) | (with_reducible refine Ext.al ?_ _) | (with_reducible refine below_drewN ?_ _) | (with_reducible refine Below.drew ?_))) HA.out).mono ?_; rintro e w3 ⟨rfl, hb3⟩; obtain ⟨hc3, hf3, hz3⟩ := ext_facts hb3; (try simp at hz3); (have hq3_0 : w.heap.size < w3.heap.size := by omega); (have hl3_0 : w.heap.size ≤ w3.heap.size := by omega); (have hr3_0 := fun o => hc3 (w.heap.size) o (by first | omega | (simp; done) | (simp; omega))); (have hs3_0 := fun o => hf3 (w.heap.size) o (by first | omega | (simp; done) | (simp; omega))); (try simp (disch := first | omega | (simp; omega)) only [World.cell?_alloc_past, World.cell?_drew] at hr3_0); (try simp (disch := first | omega | (simp; omega)) only [World.frozen?_alloc_past, World.frozen?_drew] at hs3_0); clear hc3 hf3)
  (go_wp2_with fail; refine (HO.out _).mono ?_; rintro e w4 ⟨rfl, hb4⟩; obtain ⟨hc4, hf4, hz4⟩ := ext_facts hb4; (try simp at hz4); (have hq4_0 : w.heap.size < w4.heap.size := by omega); (have hl4_0 : w.heap.size ≤ w4.heap.size := by omega); (have hr4_0 := fun o => hc4 (w.heap.size) o (by first | omega | (simp; done) | (simp; omega))); (have hs4_0 := fun o => hf4 (w.heap.size) o (by first | omega | (simp; done) | (simp; omega))); (try simp (disch := first | omega | (simp; omega)) only [World.cell?_alloc_past, World.cell?_drew] at hr4_0); (try simp (disch := first | omega | (simp; omega)) only [World.frozen?_alloc_past, World.frozen?_drew] at hs4_0); clear hc4 hf4)
  go_wp2
  exact bodyPost_ret (v := Iv.val z) (by simp [results, Tryz.results33, go_sem, *]) rfl ⟨rfl, (by repeat (first | with_reducible exact Below.refl _ _ | with_reducible assumption | ((with_reducible refine Below.setCell ?_ ?_ _); rotate_left; (simp; try omega)) | (with_reducible refine Ext.tr ?_ (by with_reducible assumption)) | (with_reducible refine Ext.al ?_ _) | (with_reducible refine below_drewN ?_ _) | (with_reducible refine Below.drew ?_)))⟩

set_option maxHeartbeats 800000 in
theorem impl_XOR (xs : List Iv) (z : Iv) (b c : Nat) (w : World) (hl : xs.length ≤ 1000000000) (hne : xs ≠ []) (hx : LieI w b 0 xs)
    (hdoor : ∀ w' b' c', Ext w w' → LieI w' b' 0 xs → Calls Tryz.prog 33 #[.slice (some ⟨b', 0, none⟩) xs.length c'] w' (Gives w' z.val)) :
    Calls Tryz.prog 14 #[.slice (some ⟨b, 0, none⟩) xs.length c] w (Gives w z.val) := by
  have HX := Lib.hid hx; clear hx
  have HD := Lib.hid hdoor; clear hdoor
  go_enter Tryz.func14, Tryz.ntmps14
  (go_wp2_with fail; refine (in_at xs b 0 c _ hl (HX.out.ext (by repeat (first | with_reducible exact Below.refl _ _ | with_reducible assumption | ((with_reducible refine Below.setCell ?_ ?_ _); rotate_left; (simp; try omega)) | (with_reducible refine Ext.tr ?_ (by with_reducible assumption)) | (with_reducible refine Ext.al ?_ _) | (with_reducible refine below_drewN ?_ _) | (with_reducible refine Below.drew ?_)))) hne).mono ?_; rintro e w1 ⟨b1, c1, rfl, hlie, hb1⟩; obtain ⟨hc1, hf1, hz1⟩ := ext_facts hb1; (try simp at hz1); (have hq1_0 : w.heap.size < w1.heap.size := by omega); (have hl1_0 : w.heap.size ≤ w1.heap.size := by omega); (have hr1_0 := fun o => hc1 (w.heap.size) o (by first | omega | (simp; done) | (simp; omega))); (have hs1_0 := fun o => hf1 (w.heap.size) o (by first | omega | (simp; done) | (simp; omega))); (try simp (disch := first | omega | (simp; omega)) only [World.cell?_alloc_past, World.cell?_drew] at hr1_0); (try simp (disch := first | omega | (simp; omega)) only [World.frozen?_alloc_past, World.frozen?_drew] at hs1_0); clear hc1 hf1)
  have HL := Lib.hid hlie; clear hlie
  (go_wp2_with fail; refine (HD.out _ b1 c1 (by repeat (first | with_reducible exact Below.refl _ _ | with_reducible assumption | ((with_reducible refine Below.setCell ?_ ?_ _); rotate_left; (simp; try omega)) | (with_reducible refine Ext.tr ?_ (by with_reducible assumption)) | (with_reducible refine Ext.al ?_ _) | (with_reducible refine below_drewN ?_ _) | (with_reducible refine Below.drew ?_))) HL.out).mono ?_; rintro e w2 ⟨rfl, hb2⟩; obtain ⟨hc2, hf2, hz2⟩ := ext_facts hb2; (try simp at hz2); (have hq2_0 : w.heap.size < w2.heap.size := by omega); (have hl2_0 : w.heap.size ≤ w2.heap.size := by omega); (have hr2_0 := fun o => hc2 (w.heap.size) o (by first | omega | (simp; done) | (simp; omega))); (have hs2_0 := fun o => hf2 (w.heap.size) o (by first | omega | (simp; done) | (simp; omega))); (try simp (disch := first | omega | (simp; omega)) only [World.cell?_alloc_past, World.cell?_drew] at hr2_0); (try simp (disch := first | omega | (simp; omega)) only [World.frozen?_alloc_past, World.frozen?_drew] at hs2_0); clear hc2 hf2)
  (go_wp2_with fail; refine (out_ok z _).mono ?_; rintro e w3 ⟨rfl, hb3⟩; obtain ⟨hc3, hf3, hz3⟩ := ext_facts hb3; (try simp at hz3); (have hq3_0 : w.heap.size < w3.heap.size := by omega); (have hl3_0 : w.heap.size ≤ w3.heap.size := by omega); (have hr3_0 := fun o => hc3 (w.heap.size) o (by first | omega | (simp; done) | (simp; omega))); (have hs3_0 := fun o => hf3 (w.heap.size) o (by first | omega | (simp; done) | (simp; omega))); (try simp (disch := first | omega | (simp; omega)) only [World.cell?_alloc_past, World.cell?_drew] at hr3_0); (try simp (disch := first | omega | (simp; omega)) only [World.frozen?_alloc_past, World.frozen?_drew] at hs3_0); clear hc3 hf3)
  go_wp2
  exact bodyPost_ret (v := Iv.val z) (by simp [results, Tryz.results14, go_sem, *]) rfl ⟨rfl, (by repeat (first | with_reducible exact Below.refl _ _ | with_reducible assumption | ((with_reducible refine Below.setCell ?_ ?_ _); rotate_left; (simp; try omega)) | (with_reducible refine Ext.tr ?_ (by with_reducible assumption)) | (with_reducible refine Ext.al ?_ _) | (with_reducible refine below_drewN ?_ _) | (with_reducible refine Below.drew ?_)))⟩

theorem innerArg_truth (r : Bool) (w : World) : Calls Tryz.prog 60 #[Iv.val ⟨3, oneW r, ⟨#[]⟩⟩] w (Gives w (.agg (fboolC (oneW r)))) := by
  cases r
  · exact innerArg_truth_no w
  · exact innerArg_truth_yes w

theorem pack_XOR (r1 r2 : Bool) (b c : Nat) (w : World) (hl : LieI w b 0 [⟨3, oneW r1, ⟨#[]⟩⟩, ⟨3, oneW r2, ⟨#[]⟩⟩]) :
    Calls Tryz.prog 14 #[.slice (some ⟨b, 0, none⟩) 2 c] w (Gives w (Iv.val ⟨3, oneW (r1 != r2), ⟨#[]⟩⟩)) := by
  refine impl_XOR [⟨3, oneW r1, ⟨#[]⟩⟩, ⟨3, oneW r2, ⟨#[]⟩⟩] ⟨3, oneW (r1 != r2), ⟨#[]⟩⟩ b c w (by simp) (by simp) hl fun w2 b2 c2 hw2 hl2 => ?_
  refine door_XOR (fun y => fboolC y.f) [⟨3, oneW r1, ⟨#[]⟩⟩, ⟨3, oneW r2, ⟨#[]⟩⟩] (fbool (oneW (r1 != r2))) ⟨3, oneW (r1 != r2), ⟨#[]⟩⟩ b2 0 c2 w2 (by simp) hl2 (fun y w3 hy => ?_) (fun w3 fb p B hw3 ha2 => fn_xor r1 r2 fb p B w3 ha2) (fun w3 => doorArg_bool _ w3)
  rcases List.mem_cons.1 hy with rfl | hy
  · exact innerArg_truth r1 w3
  · have e : y = ⟨3, oneW r2, ⟨#[]⟩⟩ := by simpa using hy
    subst e; exact innerArg_truth r2 w3

theorem of_truth (r : Bool) (w : World) : Calls Tryz.prog 40 #[(logSc r).val] w (Gives w (Iv.val ⟨3, oneW r, ⟨#[]⟩⟩)) := by
  cases r
  · exact of_truth_no w
  · exact of_truth_yes w

set_option maxHeartbeats 3200000 in
/-- said: what a function says, a truth. -/
theorem said_truth (fid : Nat) (hent : ∀ (args : Array Value) (w : World), (callFunc fid args).run Tryz.prog w = .ok (.enter fid args) w) (g : Sc → Iv) (r : Bool)
    (xs : List Sc) (b c : Nat) (w : World) (hx : Lie w b 0 xs) (hne : xs ≠ []) (hl : xs.length ≤ 1000000000)
    (hg : ∀ x w', x ∈ xs → Calls Tryz.prog 40 #[x.val] w' (Gives w' (g x).val))
    (hf : ∀ w' b' c', Ext w w' → LieI w' b' 0 (xs.map g) → Calls Tryz.prog fid #[.slice (some ⟨b', 0, none⟩) xs.length c'] w' (Gives w' (Iv.val ⟨3, oneW r, ⟨#[]⟩⟩))) :
    Calls Tryz.prog 7 #[.func (.func fid) #[] #[], .slice (some ⟨b, 0, none⟩) xs.length c] w (Gives w (logSc r).val) := by
  have HX := Lib.hid hx; clear hx
  have HNE := Lib.hid hne; clear hne
  have HG := Lib.hid hg; clear hg
  have HF := Lib.hid hf; clear hf
  have HB := Lib.hid (fun r w' => bool_any r w')
  have ho1 : FloatKind.f64.format.order 4607182418800017408 0 = some Ordering.gt := by decide +kernel
  have ho0 : FloatKind.f64.format.order 0 0 = some Ordering.eq := by decide +kernel
  cases r
  · go_enter Tryz.func7, Tryz.ntmps7
    go_wp2_with fail
    refine (all_at g xs b 0 c _ hl (HX.out.ext (by repeat (first | with_reducible exact Below.refl _ _ | with_reducible assumption | ((with_reducible refine Below.setCell ?_ ?_ _); rotate_left; (simp; try omega)) | (with_reducible refine Ext.tr ?_ (by with_reducible assumption)) | (with_reducible refine Ext.al ?_ _) | (with_reducible refine below_drewN ?_ _) | (with_reducible refine Below.drew ?_)))) HNE.out HG.out).mono ?_
    rintro e w5 ⟨b5, c5, rfl, hlie5, hb5⟩
    (obtain ⟨hc5, hf5, hz5⟩ := ext_facts hb5; (try simp at hz5); (have hq5_0 : w.heap.size < w5.heap.size := by omega); (have hl5_0 : w.heap.size ≤ w5.heap.size := by omega); (have hr5_0 := fun o => hc5 (w.heap.size) o (by first | omega | (simp; done) | (simp; omega))); (have hs5_0 := fun o => hf5 (w.heap.size) o (by first | omega | (simp; done) | (simp; omega))); (try simp (disch := first | omega | (simp; omega)) only [World.cell?_alloc_past, World.cell?_drew] at hr5_0); (try simp (disch := first | omega | (simp; omega)) only [World.frozen?_alloc_past, World.frozen?_drew] at hs5_0); clear hc5 hf5)
    have HL5 := Lib.hid hlie5; clear hlie5
    go_wp2_with fail
    refine (HF.out _ b5 c5 (by repeat (first | with_reducible exact Below.refl _ _ | with_reducible assumption | ((with_reducible refine Below.setCell ?_ ?_ _); rotate_left; (simp; try omega)) | (with_reducible refine Ext.tr ?_ (by with_reducible assumption)) | (with_reducible refine Ext.al ?_ _) | (with_reducible refine below_drewN ?_ _) | (with_reducible refine Below.drew ?_))) HL5.out).mono ?_
    rintro e w6 ⟨rfl, hb6⟩
    (obtain ⟨hc6, hf6, hz6⟩ := ext_facts hb6; (try simp at hz6); (have hq6_0 : w.heap.size < w6.heap.size := by omega); (have hl6_0 : w.heap.size ≤ w6.heap.size := by omega); (have hr6_0 := fun o => hc6 (w.heap.size) o (by first | omega | (simp; done) | (simp; omega))); (have hs6_0 := fun o => hf6 (w.heap.size) o (by first | omega | (simp; done) | (simp; omega))); (try simp (disch := first | omega | (simp; omega)) only [World.cell?_alloc_past, World.cell?_drew] at hr6_0); (try simp (disch := first | omega | (simp; omega)) only [World.frozen?_alloc_past, World.frozen?_drew] at hs6_0); clear hc6 hf6)
    go_wp2_with fail
    (go_wp2_with fail; refine (HB.out false _).mono ?_; rintro e w7 ⟨rfl, hb7⟩; obtain ⟨hc7, hf7, hz7⟩ := ext_facts hb7; (try simp at hz7); (have hq7_0 : w.heap.size < w7.heap.size := by omega); (have hl7_0 : w.heap.size ≤ w7.heap.size := by omega); (have hr7_0 := fun o => hc7 (w.heap.size) o (by first | omega | (simp; done) | (simp; omega))); (have hs7_0 := fun o => hf7 (w.heap.size) o (by first | omega | (simp; done) | (simp; omega))); (try simp (disch := first | omega | (simp; omega)) only [World.cell?_alloc_past, World.cell?_drew] at hr7_0); (try simp (disch := first | omega | (simp; omega)) only [World.frozen?_alloc_past, World.frozen?_drew] at hs7_0); clear hc7 hf7)
    go_wp2
    exact bodyPost_ret (v := (logSc false).val) (by simp [results, Tryz.results7, go_sem, *]) rfl ⟨rfl, (by repeat (first | with_reducible exact Below.refl _ _ | with_reducible assumption | ((with_reducible refine Below.setCell ?_ ?_ _); rotate_left; (simp; try omega)) | (with_reducible refine Ext.tr ?_ (by with_reducible assumption)) | (with_reducible refine Ext.al ?_ _) | (with_reducible refine below_drewN ?_ _) | (with_reducible refine Below.drew ?_)))⟩
  · go_enter Tryz.func7, Tryz.ntmps7
    go_wp2_with fail
    refine (all_at g xs b 0 c _ hl (HX.out.ext (by repeat (first | with_reducible exact Below.refl _ _ | with_reducible assumption | ((with_reducible refine Below.setCell ?_ ?_ _); rotate_left; (simp; try omega)) | (with_reducible refine Ext.tr ?_ (by with_reducible assumption)) | (with_reducible refine Ext.al ?_ _) | (with_reducible refine below_drewN ?_ _) | (with_reducible refine Below.drew ?_)))) HNE.out HG.out).mono ?_
    rintro e w5 ⟨b5, c5, rfl, hlie5, hb5⟩
    (obtain ⟨hc5, hf5, hz5⟩ := ext_facts hb5; (try simp at hz5); (have hq5_0 : w.heap.size < w5.heap.size := by omega); (have hl5_0 : w.heap.size ≤ w5.heap.size := by omega); (have hr5_0 := fun o => hc5 (w.heap.size) o (by first | omega | (simp; done) | (simp; omega))); (have hs5_0 := fun o => hf5 (w.heap.size) o (by first | omega | (simp; done) | (simp; omega))); (try simp (disch := first | omega | (simp; omega)) only [World.cell?_alloc_past, World.cell?_drew] at hr5_0); (try simp (disch := first | omega | (simp; omega)) only [World.frozen?_alloc_past, World.frozen?_drew] at hs5_0); clear hc5 hf5)
    have HL5 := Lib.hid hlie5; clear hlie5
    go_wp2_with fail
    refine (HF.out _ b5 c5 (by repeat (first | with_reducible exact Below.refl _ _ | with_reducible assumption | ((with_reducible refine Below.setCell ?_ ?_ _); rotate_left; (simp; try omega)) | (with_reducible refine Ext.tr ?_ (by with_reducible assumption)) | (with_reducible refine Ext.al ?_ _) | (with_reducible refine below_drewN ?_ _) | (with_reducible refine Below.drew ?_))) HL5.out).mono ?_
    rintro e w6 ⟨rfl, hb6⟩
    (obtain ⟨hc6, hf6, hz6⟩ := ext_facts hb6; (try simp at hz6); (have hq6_0 : w.heap.size < w6.heap.size := by omega); (have hl6_0 : w.heap.size ≤ w6.heap.size := by omega); (have hr6_0 := fun o => hc6 (w.heap.size) o (by first | omega | (simp; done) | (simp; omega))); (have hs6_0 := fun o => hf6 (w.heap.size) o (by first | omega | (simp; done) | (simp; omega))); (try simp (disch := first | omega | (simp; omega)) only [World.cell?_alloc_past, World.cell?_drew] at hr6_0); (try simp (disch := first | omega | (simp; omega)) only [World.frozen?_alloc_past, World.frozen?_drew] at hs6_0); clear hc6 hf6)
    go_wp2_with fail
    (go_wp2_with fail; refine (HB.out true _).mono ?_; rintro e w7 ⟨rfl, hb7⟩; obtain ⟨hc7, hf7, hz7⟩ := ext_facts hb7; (try simp at hz7); (have hq7_0 : w.heap.size < w7.heap.size := by omega); (have hl7_0 : w.heap.size ≤ w7.heap.size := by omega); (have hr7_0 := fun o => hc7 (w.heap.size) o (by first | omega | (simp; done) | (simp; omega))); (have hs7_0 := fun o => hf7 (w.heap.size) o (by first | omega | (simp; done) | (simp; omega))); (try simp (disch := first | omega | (simp; omega)) only [World.cell?_alloc_past, World.cell?_drew] at hr7_0); (try simp (disch := first | omega | (simp; omega)) only [World.frozen?_alloc_past, World.frozen?_drew] at hs7_0); clear hc7 hf7)
    go_wp2
    exact bodyPost_ret (v := (logSc true).val) (by simp [results, Tryz.results7, go_sem, *]) rfl ⟨rfl, (by repeat (first | with_reducible exact Below.refl _ _ | with_reducible assumption | ((with_reducible refine Below.setCell ?_ ?_ _); rotate_left; (simp; try omega)) | (with_reducible refine Ext.tr ?_ (by with_reducible assumption)) | (with_reducible refine Ext.al ?_ _) | (with_reducible refine below_drewN ?_ _) | (with_reducible refine Below.drew ?_)))⟩

set_option maxHeartbeats 3200000 in
/-- Same of a truth and itself. -/
theorem same_truth (n : Int) (w : World) : Calls Tryz.prog 13 #[Sc.val ⟨3, n, 0, ⟨#[]⟩⟩, Sc.val ⟨3, n, 0, ⟨#[]⟩⟩] w (Gives w (.bool true)) := by
  go_enter Tryz.func13, Tryz.ntmps13
  go_wp2_with fail
  refine wp_loop_rounds 1 ?_
  rw [rounds_succ]
  go_wp2
  go_ret
  exact ⟨rfl, (by repeat (first | with_reducible exact Below.refl _ _ | with_reducible assumption | ((with_reducible refine Below.setCell ?_ ?_ _); rotate_left; (simp; try omega)) | (with_reducible refine Ext.tr ?_ (by with_reducible assumption)) | (with_reducible refine Ext.al ?_ _) | (with_reducible refine below_drewN ?_ _) | (with_reducible refine Below.drew ?_)))⟩
end Go.Proofs.YtlbhebmjdaaglaaGreatDoor

namespace Go.Proofs.YtlbhebmjdaaglaaGreatDoor
set_option linter.unusedSimpArgs false
set_option linter.unusedVariables false
open Go Go.RowKit
set_option maxRecDepth 100000

/-- What said gives for one function. -/
def Says (fid : Nat) (w : World) (x : Sc) (r : Bool) : Prop :=
  ∀ w' b c, Ext w w' → Lie w' b 0 [x] → Calls Tryz.prog 7 #[.func (.func fid) #[] #[], .slice (some ⟨b, 0, none⟩) 1 c] w' (Gives w' (logSc r).val)

structure Told (w : World) (x : Sc) (n t l b e r a : Bool) : Prop where
  num : Says 8 w x n
  txt : Says 9 w x t
  log : Says 10 w x l
  bla : Says 11 w x b
  err : Says 12 w x e
  erx : Says 15 w x r
  nav : Says 16 w x a

/-- A method of the package, of one value. -/
abbrev FnOf (fid : Nat) (w : World) (v : Array Value) (r : Bool) : Prop := ∀ w' fb p B, Ext w w' → ArgsAt w' p B [v] → Calls Tryz.prog fid #[ptr fb, ptr p] w' (Gives w' (fbool (oneW r)))

theorem says_ISNUMBER (x : Sc) (u : Iv) (v : Array Value) (r : Bool) (w : World) (hg : ∀ w', Calls Tryz.prog 40 #[x.val] w' (Gives w' u.val)) (hin : ∀ w', Calls Tryz.prog 60 #[u.val] w' (Gives w' (.agg v)))
    (hfn : FnOf 43 w v r) : Says 8 w x r := by
  intro w' b c hw hl
  refine said_truth 8 (fun args w => Tryz.call8 args w) (fun _ => u) r [x] b c w' hl (by simp) (by simp) (fun y w2 hm => ?_) (fun w2 b2 c2 hw2 hl2 => pack_ISNUMBER u v (oneW r) b2 c2 w2 hl2 hin fun w3 fb p B hw3 ha => hfn w3 fb p B ((hw.tr hw2).tr hw3) ha)
  have e : y = x := by simpa using hm
  subst e
  exact hg w2

theorem says_ISTEXT (x : Sc) (u : Iv) (v : Array Value) (r : Bool) (w : World) (hg : ∀ w', Calls Tryz.prog 40 #[x.val] w' (Gives w' u.val)) (hin : ∀ w', Calls Tryz.prog 60 #[u.val] w' (Gives w' (.agg v)))
    (hfn : FnOf 45 w v r) : Says 9 w x r := by
  intro w' b c hw hl
  refine said_truth 9 (fun args w => Tryz.call9 args w) (fun _ => u) r [x] b c w' hl (by simp) (by simp) (fun y w2 hm => ?_) (fun w2 b2 c2 hw2 hl2 => pack_ISTEXT u v (oneW r) b2 c2 w2 hl2 hin fun w3 fb p B hw3 ha => hfn w3 fb p B ((hw.tr hw2).tr hw3) ha)
  have e : y = x := by simpa using hm
  subst e
  exact hg w2

theorem says_ISLOGICAL (x : Sc) (u : Iv) (v : Array Value) (r : Bool) (w : World) (hg : ∀ w', Calls Tryz.prog 40 #[x.val] w' (Gives w' u.val)) (hin : ∀ w', Calls Tryz.prog 60 #[u.val] w' (Gives w' (.agg v)))
    (hfn : FnOf 46 w v r) : Says 10 w x r := by
  intro w' b c hw hl
  refine said_truth 10 (fun args w => Tryz.call10 args w) (fun _ => u) r [x] b c w' hl (by simp) (by simp) (fun y w2 hm => ?_) (fun w2 b2 c2 hw2 hl2 => pack_ISLOGICAL u v (oneW r) b2 c2 w2 hl2 hin fun w3 fb p B hw3 ha => hfn w3 fb p B ((hw.tr hw2).tr hw3) ha)
  have e : y = x := by simpa using hm
  subst e
  exact hg w2

theorem says_ISBLANK (x : Sc) (u : Iv) (v : Array Value) (r : Bool) (w : World) (hg : ∀ w', Calls Tryz.prog 40 #[x.val] w' (Gives w' u.val)) (hin : ∀ w', Calls Tryz.prog 60 #[u.val] w' (Gives w' (.agg v)))
    (hfn : FnOf 47 w v r) : Says 11 w x r := by
  intro w' b c hw hl
  refine said_truth 11 (fun args w => Tryz.call11 args w) (fun _ => u) r [x] b c w' hl (by simp) (by simp) (fun y w2 hm => ?_) (fun w2 b2 c2 hw2 hl2 => pack_ISBLANK u v (oneW r) b2 c2 w2 hl2 hin fun w3 fb p B hw3 ha => hfn w3 fb p B ((hw.tr hw2).tr hw3) ha)
  have e : y = x := by simpa using hm
  subst e
  exact hg w2

theorem says_ISERROR (x : Sc) (u : Iv) (v : Array Value) (r : Bool) (w : World) (hg : ∀ w', Calls Tryz.prog 40 #[x.val] w' (Gives w' u.val)) (hin : ∀ w', Calls Tryz.prog 60 #[u.val] w' (Gives w' (.agg v)))
    (hfn : FnOf 48 w v r) : Says 12 w x r := by
  intro w' b c hw hl
  refine said_truth 12 (fun args w => Tryz.call12 args w) (fun _ => u) r [x] b c w' hl (by simp) (by simp) (fun y w2 hm => ?_) (fun w2 b2 c2 hw2 hl2 => pack_ISERROR u v (oneW r) b2 c2 w2 hl2 hin fun w3 fb p B hw3 ha => hfn w3 fb p B ((hw.tr hw2).tr hw3) ha)
  have e : y = x := by simpa using hm
  subst e
  exact hg w2

theorem says_ISERR (x : Sc) (u : Iv) (v : Array Value) (r : Bool) (w : World) (hg : ∀ w', Calls Tryz.prog 40 #[x.val] w' (Gives w' u.val)) (hin : ∀ w', Calls Tryz.prog 60 #[u.val] w' (Gives w' (.agg v)))
    (hfn : FnOf 50 w v r) : Says 15 w x r := by
  intro w' b c hw hl
  refine said_truth 15 (fun args w => Tryz.call15 args w) (fun _ => u) r [x] b c w' hl (by simp) (by simp) (fun y w2 hm => ?_) (fun w2 b2 c2 hw2 hl2 => pack_ISERR u v (oneW r) b2 c2 w2 hl2 hin fun w3 fb p B hw3 ha => hfn w3 fb p B ((hw.tr hw2).tr hw3) ha)
  have e : y = x := by simpa using hm
  subst e
  exact hg w2

theorem says_ISNA (x : Sc) (u : Iv) (v : Array Value) (r : Bool) (w : World) (hg : ∀ w', Calls Tryz.prog 40 #[x.val] w' (Gives w' u.val)) (hin : ∀ w', Calls Tryz.prog 60 #[u.val] w' (Gives w' (.agg v)))
    (hfn : FnOf 51 w v r) : Says 16 w x r := by
  intro w' b c hw hl
  refine said_truth 16 (fun args w => Tryz.call16 args w) (fun _ => u) r [x] b c w' hl (by simp) (by simp) (fun y w2 hm => ?_) (fun w2 b2 c2 hw2 hl2 => pack_ISNA u v (oneW r) b2 c2 w2 hl2 hin fun w3 fb p B hw3 ha => hfn w3 fb p B ((hw.tr hw2).tr hw3) ha)
  have e : y = x := by simpa using hm
  subst e
  exact hg w2

theorem told_mk (x : Sc) (u : Iv) (v : Array Value) (n t l b e r a : Bool) (w : World) (hg : ∀ w', Calls Tryz.prog 40 #[x.val] w' (Gives w' u.val)) (hin : ∀ w', Calls Tryz.prog 60 #[u.val] w' (Gives w' (.agg v)))
    (h0 : FnOf 43 w v n) (h1 : FnOf 45 w v t) (h2 : FnOf 46 w v l) (h3 : FnOf 47 w v b) (h4 : FnOf 48 w v e) (h5 : FnOf 50 w v r) (h6 : FnOf 51 w v a) : Told w x n t l b e r a :=
  ⟨says_ISNUMBER x u v _ w hg hin h0, says_ISTEXT x u v _ w hg hin h1, says_ISLOGICAL x u v _ w hg hin h2, says_ISBLANK x u v _ w hg hin h3, says_ISERROR x u v _ w hg hin h4, says_ISERR x u v _ w hg hin h5, says_ISNA x u v _ w hg hin h6⟩

theorem says_XOR (r1 r2 : Bool) (b c : Nat) (w : World) (hl : Lie w b 0 [logSc r1, logSc r2]) :
    Calls Tryz.prog 7 #[.func (.func 14) #[] #[], .slice (some ⟨b, 0, none⟩) 2 c] w (Gives w (logSc (r1 != r2)).val) := by
  refine said_truth 14 (fun args w => Tryz.call14 args w) (fun y => ⟨3, if y.n = 0 then 0 else 4607182418800017408, ⟨#[]⟩⟩) (r1 != r2) [logSc r1, logSc r2] b c w hl (by simp) (by simp) (fun y w2 hm => ?_) (fun w2 b2 c2 hw2 hl2 => ?_)
  · rcases List.mem_cons.1 hm with rfl | hm
    · cases r1
      · exact of_truth false w2
      · exact of_truth true w2
    · have e : y = logSc r2 := by simpa using hm
      subst e
      cases r2
      · exact of_truth false w2
      · exact of_truth true w2
  · refine pack_XOR r1 r2 b2 c2 w2 ?_
    have e : ([logSc r1, logSc r2].map fun y : Sc => (⟨3, if y.n = 0 then 0 else 4607182418800017408, ⟨#[]⟩⟩ : Iv)) = [⟨3, oneW r1, ⟨#[]⟩⟩, ⟨3, oneW r2, ⟨#[]⟩⟩] := by cases r1 <;> cases r2 <;> rfl
    rw [e] at hl2
    exact hl2

abbrev b1 (r : Bool) : Int := if r then 1 else 0

/-- Of each value just one thing is said; an error is one but #N/A, or #N/A. -/
def OneOf (w : World) (x : Sc) : Prop := ∃ n t l b e r a : Bool, Told w x n t l b e r a ∧ b1 n + b1 t + b1 l + b1 b + b1 e = 1 ∧ (r != a) = e

theorem one_empty (w : World) : OneOf w ⟨0, 0, 0, ⟨#[]⟩⟩ := by
  refine ⟨false, false, false, true, false, false, false, told_mk _ ⟨0, 0, ⟨#[]⟩⟩ femptyC _ _ _ _ _ _ _ w (fun w' => of_empty w') (fun w' => innerArg_empty w') ?_ ?_ ?_ ?_ ?_ ?_ ?_, by decide, by decide⟩
  · exact fun w' fb p B _ ha => fn_isnumber 0 ⟨#[]⟩ ⟨#[]⟩ false 6 false (Or.inr ⟨Or.inr (Or.inr rfl), rfl⟩) fb p B w' ha
  · exact fun w' fb p B _ ha => fn_istext_no 0 ⟨#[]⟩ ⟨#[]⟩ false 6 0 fb p B w' (fun w2 => toNumber_other femptyC w2 ⟨0, ⟨#[]⟩, ⟨#[]⟩, false, 6, rfl, Or.inr rfl⟩) ha
  · exact fun w' fb p B _ ha => fn_islogical femptyC false false fb p B w' (fun w2 _ => value_empty w2) ha
  · exact fun w' fb p B _ ha => fn_isblank 0 ⟨#[]⟩ ⟨#[]⟩ false 6 true (Or.inl ⟨rfl, rfl⟩) fb p B w' ha
  · exact fun w' fb p B _ ha => fn_iserror_no 0 ⟨#[]⟩ ⟨#[]⟩ false 6 (by decide) fb p B w' ha
  · exact fun w' fb p B _ ha => fn_iserr_no 0 ⟨#[]⟩ ⟨#[]⟩ false 6 (by decide) fb p B w' ha
  · exact fun w' fb p B _ ha => fn_isna 0 ⟨#[]⟩ ⟨#[]⟩ false 6 false (Or.inr ⟨Or.inr (Or.inr rfl), rfl⟩) fb p B w' ha

theorem one_num (x : Sc) (hn : NumK x) (ht : x.t = ⟨#[]⟩) (w : World) (htab : TabsAt w) : OneOf w x := by
  have hb := hn.bound
  have htm : Tame (f16 (x.n * (16 / x.d))) := tame_f16 (by omega) (by omega)
  have hwo : WordOk (f16 (x.n * (16 / x.d))) := wordOk_fx (by omega) (by omega) (by omega) (by omega)
  refine ⟨true, false, false, false, false, false, false, told_mk x (gnum x) (fnumC (f16 (x.n * (16 / x.d)))) _ _ _ _ _ _ _ w (fun w' => of_numK x hn ht w') (fun w' => innerArg_num _ w' htm) ?_ ?_ ?_ ?_ ?_ ?_ ?_, by decide, by decide⟩
  · exact fun w' fb p B _ ha => fn_isnumber _ ⟨#[]⟩ ⟨#[]⟩ false 1 true (Or.inl ⟨rfl, rfl⟩) fb p B w' ha
  · exact fun w' fb p B _ ha => fn_istext_no _ ⟨#[]⟩ ⟨#[]⟩ false 1 _ fb p B w' (fun w2 => toNumber_num _ false w2 htm) ha
  · exact fun w' fb p B hw ha => fn_islogical _ false false fb p B w' (fun w2 hw2 => value_num _ w2 hwo (htab.ext (hw.tr hw2))) ha
  · exact fun w' fb p B _ ha => fn_isblank _ ⟨#[]⟩ ⟨#[]⟩ false 1 false (Or.inr ⟨Or.inl rfl, rfl⟩) fb p B w' ha
  · exact fun w' fb p B _ ha => fn_iserror_no _ ⟨#[]⟩ ⟨#[]⟩ false 1 (by decide) fb p B w' ha
  · exact fun w' fb p B _ ha => fn_iserr_no _ ⟨#[]⟩ ⟨#[]⟩ false 1 (by decide) fb p B w' ha
  · exact fun w' fb p B _ ha => fn_isna _ ⟨#[]⟩ ⟨#[]⟩ false 1 false (Or.inr ⟨Or.inl rfl, rfl⟩) fb p B w' ha

theorem one_word (s : ByteArray) (w : World) (hs : s.size ≤ 1000000000) (hw : wordT s = true) (hv : SynAt w) : OneOf w ⟨2, 0, 0, s⟩ := by
  refine ⟨false, true, false, false, false, false, false, told_mk _ (ivt s) (fstrC s) _ _ _ _ _ _ _ w (fun w' => of_text s w') (fun w' => innerArg_text s w') ?_ ?_ ?_ ?_ ?_ ?_ ?_, by decide, by decide⟩
  · exact fun w' fb p B _ ha => fn_isnumber 0 s ⟨#[]⟩ false 2 false (Or.inr ⟨Or.inl rfl, rfl⟩) fb p B w' ha
  · exact fun w' fb p B hb ha => fn_istext_word s fb p B w' hs hw (hv.ext hb) ha
  · exact fun w' fb p B _ ha => fn_islogical _ false false fb p B w' (fun w2 _ => value_text s false false w2 (folds_word hs hw)) ha
  · exact fun w' fb p B _ ha => fn_isblank 0 s ⟨#[]⟩ false 2 false (Or.inr ⟨Or.inr (Or.inl rfl), rfl⟩) fb p B w' ha
  · exact fun w' fb p B _ ha => fn_iserror_no 0 s ⟨#[]⟩ false 2 (by decide) fb p B w' ha
  · exact fun w' fb p B _ ha => fn_iserr_no 0 s ⟨#[]⟩ false 2 (by decide) fb p B w' ha
  · exact fun w' fb p B _ ha => fn_isna 0 s ⟨#[]⟩ false 2 false (Or.inr ⟨Or.inr (Or.inl rfl), rfl⟩) fb p B w' ha

theorem tame_oneW (r : Bool) : Tame (oneW r) := by
  cases r
  · exact tame0
  · exact tame1

theorem value_truth (r : Bool) (w : World) : ValTo (fboolC (oneW r)) r (!r) w := by
  cases r
  · exact value_not w
  · exact value_yes w

theorem one_truth (r : Bool) (w : World) : OneOf w (logSc r) := by
  refine ⟨false, false, r || !r, false, false, false, false, told_mk _ ⟨3, oneW r, ⟨#[]⟩⟩ (fboolC (oneW r)) _ _ _ _ _ _ _ w (fun w' => of_truth r w') (fun w' => innerArg_truth r w') ?_ ?_ ?_ ?_ ?_ ?_ ?_, by cases r <;> decide, by decide⟩
  · exact fun w' fb p B _ ha => fn_isnumber _ ⟨#[]⟩ ⟨#[]⟩ true 1 false (Or.inl ⟨rfl, rfl⟩) fb p B w' ha
  · exact fun w' fb p B _ ha => fn_istext_no _ ⟨#[]⟩ ⟨#[]⟩ true 1 _ fb p B w' (fun w2 => toNumber_num _ true w2 (tame_oneW r)) ha
  · exact fun w' fb p B _ ha => fn_islogical _ r (!r) fb p B w' (fun w2 _ => value_truth r w2) ha
  · exact fun w' fb p B _ ha => fn_isblank _ ⟨#[]⟩ ⟨#[]⟩ true 1 false (Or.inr ⟨Or.inl rfl, rfl⟩) fb p B w' ha
  · exact fun w' fb p B _ ha => fn_iserror_no _ ⟨#[]⟩ ⟨#[]⟩ true 1 (by decide) fb p B w' ha
  · exact fun w' fb p B _ ha => fn_iserr_no _ ⟨#[]⟩ ⟨#[]⟩ true 1 (by decide) fb p B w' ha
  · exact fun w' fb p B _ ha => fn_isna _ ⟨#[]⟩ ⟨#[]⟩ true 1 false (Or.inr ⟨Or.inl rfl, rfl⟩) fb p B w' ha

/-- What is asked of an error's name. -/
theorem names_ok : (errNames.all fun t => nmISERROR.any (fun y => y.toList == t.toList) && (nmISERR.any (fun y => y.toList == t.toList) != (t.toList == [35, 78, 47, 65])) && decide (t.size ≤ 100) && (t.data.toList.all fun b => decide (b.toNat < 128)) &&
    !Lib.equalFold [84, 82, 85, 69] t.data.toList && !Lib.equalFold [70, 65, 76, 83, 69] t.data.toList) = true := by decide +kernel

theorem one_err (t : ByteArray) (w : World) (h : t ∈ errNames) : OneOf w ⟨4, 0, 0, t⟩ := by
  have hq := List.all_eq_true.1 names_ok t h
  simp only [Bool.and_eq_true, Bool.not_eq_true', decide_eq_true_eq] at hq
  obtain ⟨⟨⟨⟨⟨q1, q2⟩, q3⟩, q4⟩, q5⟩, q6⟩ := hq
  have hfo : FoldsTo t false false := ⟨by omega, fun j b hb => by have := List.all_eq_true.1 q4 b (List.mem_of_getElem? hb); simpa using this, q5, q6⟩
  refine ⟨false, false, false, false, true, nmISERR.any (fun y => y.toList == t.toList), (t.toList == [35, 78, 47, 65]), told_mk _ ⟨4, 0, t⟩ (ferrC t t) _ _ _ _ _ _ _ w (fun w' => of_err t w') (fun w' => innerArg_err t w') ?_ ?_ ?_ ?_ ?_ ?_ ?_, by decide, q2⟩
  · exact fun w' fb p B _ ha => fn_isnumber 0 t t false 5 false (Or.inr ⟨Or.inr (Or.inl rfl), rfl⟩) fb p B w' ha
  · exact fun w' fb p B _ ha => fn_istext_no 0 t t false 5 0 fb p B w' (fun w2 => toNumber_other (ferrC t t) w2 ⟨0, t, t, false, 5, rfl, Or.inl rfl⟩) ha
  · exact fun w' fb p B _ ha => fn_islogical _ false false fb p B w' (fun w2 _ => value_err t t false false w2 hfo) ha
  · exact fun w' fb p B _ ha => fn_isblank 0 t t false 5 false (Or.inr ⟨Or.inr (Or.inr rfl), rfl⟩) fb p B w' ha
  · exact fun w' fb p B _ ha => fn_iserror 0 t t false true q1 fb p B w' ha
  · exact fun w' fb p B _ ha => fn_iserr 0 t t false _ rfl fb p B w' ha
  · exact fun w' fb p B _ ha => fn_isna 0 t t false 5 _ (Or.inl ⟨rfl, rfl⟩) fb p B w' ha

theorem one_made (s : ByteArray) (x : Sc) (w : World) (hs : s.size ≤ 1000) (hv : SynAt w) (ht : TabsAt w) (hm : MadeOk s x) (h6 : x.k ≠ 6) (h2 : x.k = 2 → wordT s = true) : OneOf w x := by
  rcases hm with rfl | ⟨Z, ⟨hn, htx, _⟩ | rfl⟩ | rfl | ⟨r, rfl⟩ | ⟨t, hm, rfl⟩
  · exact one_empty w
  · exact one_num x hn htx w ht
  · exact absurd rfl h6
  · exact one_word s w (by omega) (h2 rfl) hv
  · exact one_truth r w
  · exact one_err t w hm
end Go.Proofs.YtlbhebmjdaaglaaGreatDoor

namespace Go.Proofs.YtlbhebmjdaaglaaGreatDoor
set_option linter.unusedSimpArgs false
set_option linter.unusedVariables false
open Go Go.RowKit
set_option maxRecDepth 100000

theorem take_one {l : List Value} {i : Nat} {v : Value} (h : (l.drop i).take 1 = [v]) : l[i]? = some v := by
  have : ((l.drop i).take 1)[0]? = some v := by rw [h]; rfl
  simpa using this

/-- An array of numbers that is laid. -/
theorem u64s_of_laid {P : Program} {n : String} {l : List (DataW Unit)} {r : List (String × DataW Unit)} {W : World} {g N : Nat} {tA e : TypeId}
    (h : laidMet P ((n, .agg l) :: r) W) (hg : P.globalNamed n = some g) (ht : (P.globals[g]?).map (·.type) = some tA) (hA : P.underlying tA = some (.array N e)) (he : P.underlying e = some (.int .u64)) (hce : P.cellsOf e = 1) :
    ∀ i y, i < N → l[i]? = some (.lit (.int .u64 y)) → W.cell? ⟨g, i, none⟩ = some (.int .u64 y) := by
  obtain ⟨ps, ⟨g0, t0, cs, fuel, p, q, hg0, ht0, hvar, hd, _, _⟩, _, _⟩ := h
  obtain rfl := Option.some.inj (hg.symm.trans hg0)
  obtain rfl := Option.some.inj (ht.symm.trans ht0)
  obtain ⟨xs, m, rfl, hx, _, hxl, hi⟩ := DataW.trod_array hA hd
  have hl : l = xs.map (·.1) := by
    have h1 := congrArg Prod.fst hx
    simpa using h1
  intro i y hiN hy
  obtain ⟨x, hxi⟩ : ∃ x, xs[i]? = some x := ⟨_, List.getElem?_eq_getElem (by omega)⟩
  have h1 := hi i hiN
  rw [hxi, hce, Nat.mul_one] at h1
  obtain ⟨k, q1, rfl, _⟩ := DataW.trod_int he h1
  rw [hl, List.getElem?_map, hxi] at hy
  have hk : k = y := by simpa using hy
  subst hk
  rw [World.var?_cell hg0 hvar i]
  have := take_one q1
  simpa using this

theorem wf_u64 {n : Int} (h : (Lit.int .u64 n).wf = true) : 0 ≤ n ∧ n < 18446744073709551616 := by
  simp [Lit.wf, IntKind.min, IntKind.max, IntKind.signed, IntKind.bits] at h
  omega

/-- An array of pairs of numbers that is laid. -/
theorem pairs_of_laid {P : Program} {n : String} {l : List (DataW Unit)} {r : List (String × DataW Unit)} {W : World} {g N : Nat} {tA e u : TypeId} {f0 f1 : Field}
    (h : laidMet P ((n, .agg l) :: r) W) (hg : P.globalNamed n = some g) (ht : (P.globals[g]?).map (·.type) = some tA) (hA : P.underlying tA = some (.array N e)) (he : P.underlying e = some (.struct #[f0, f1])) (hu : P.underlying u = some (.int .u64))
    (a0 : f0.type = u) (a1 : f1.type = u) (o0 : f0.offset = 0) (o1 : f1.offset = 1) (hce : P.cellsOf e = 2) (hcu : P.cellsOf u = 1) :
    ∀ i, i < N → ∃ a b : Int, W.cell? ⟨g, i * 2, none⟩ = some (.int .u64 a) ∧ W.cell? ⟨g, i * 2 + 1, none⟩ = some (.int .u64 b) ∧ (0 ≤ a ∧ a < 18446744073709551616) ∧ (0 ≤ b ∧ b < 18446744073709551616) := by
  obtain ⟨ps, ⟨g0, t0, cs, fuel, p, q, hg0, ht0, hvar, hd, _, _⟩, _, _⟩ := h
  obtain rfl := Option.some.inj (hg.symm.trans hg0)
  obtain rfl := Option.some.inj (ht.symm.trans ht0)
  obtain ⟨xs, m, rfl, _, _, hxl, hi⟩ := DataW.trod_array hA hd
  intro i hiN
  obtain ⟨x, hxi⟩ : ∃ x, xs[i]? = some x := ⟨_, List.getElem?_eq_getElem (by omega)⟩
  have h1 := hi i hiN
  rw [hxi, hce] at h1
  obtain ⟨ys, m2, rfl, _, _, hyl, hj⟩ := DataW.trod_struct he h1
  have hyl : ys.length = 2 := hyl
  obtain ⟨y0, hy0⟩ : ∃ y, ys[0]? = some y := ⟨_, List.getElem?_eq_getElem (by omega)⟩
  obtain ⟨y1, hy1⟩ : ∃ y, ys[1]? = some y := ⟨_, List.getElem?_eq_getElem (by omega)⟩
  have q0 := hj 0 f0 rfl
  have q1 := hj 1 f1 rfl
  rw [hy0, a0, o0, hcu] at q0
  rw [hy1, a1, o1, hcu] at q1
  obtain ⟨a, ea, _, wa⟩ := DataW.trod_int hu q0
  obtain ⟨b, eb, _, wb⟩ := DataW.trod_int hu q1
  have c0 := take_one ea
  have c1 := take_one eb
  simp only [List.getElem?_take, List.getElem?_drop] at c0 c1
  refine ⟨a, b, ?_, ?_, wf_u64 wa, wf_u64 wb⟩
  · rw [World.var?_cell hg0 hvar]
    simpa using c0
  · rw [World.var?_cell hg0 hvar]
    simpa using c1

theorem tab_of {W : World} (h : ∀ i, i < 696 → ∃ a b : Int, W.cell? ⟨17, i * 2, none⟩ = some (.int .u64 a) ∧ W.cell? ⟨17, i * 2 + 1, none⟩ = some (.int .u64 b) ∧ (0 ≤ a ∧ a < 18446744073709551616) ∧ (0 ≤ b ∧ b < 18446744073709551616)) :
    ∃ T : Nat → Nat × Nat, TabAt W T := by
  have h2 : ∀ i, ∃ t : Nat × Nat, i < 696 → W.cell? ⟨17, i * 2, none⟩ = some (.int .u64 t.1) ∧ W.cell? ⟨17, i * 2 + 1, none⟩ = some (.int .u64 t.2) ∧ t.1 < 18446744073709551616 ∧ t.2 < 18446744073709551616 := by
    intro i
    by_cases hi : i < 696
    · obtain ⟨a, b, q1, q2, q3, q4⟩ := h i hi
      refine ⟨(a.toNat, b.toNat), fun _ => ⟨?_, ?_, by show a.toNat < _; omega, by show b.toNat < _; omega⟩⟩
      · rw [q1, Int.toNat_of_nonneg q3.1]
      · rw [q2, Int.toNat_of_nonneg q4.1]
    · exact ⟨(0, 0), fun h => absurd h hi⟩
  obtain ⟨T, hT⟩ := Classical.axiomOfChoice h2
  exact ⟨T, fun i hi => (hT i hi).1, fun i hi => (hT i hi).2.1, fun i hi => (hT i hi).2.2⟩

abbrev powRow : List (DataW Unit) := (List.range 20).map fun i => .lit (.int .u64 ((10 ^ i : Nat) : Int))

theorem pow_of {W : World} (h : ∀ i y, i < 20 → powRow[i]? = some (.lit (.int .u64 y)) → W.cell? ⟨13, i, none⟩ = some (.int .u64 y)) : PowAt W := by
  intro i hi
  refine h i _ hi ?_
  rw [List.getElem?_map, List.getElem?_range hi]
  rfl
end Go.Proofs.YtlbhebmjdaaglaaGreatDoor
