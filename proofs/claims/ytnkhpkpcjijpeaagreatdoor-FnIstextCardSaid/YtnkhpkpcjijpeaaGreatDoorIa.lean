/-
  ISTEXT: the reference's side, first part.
-/
import Derived.Test.YtnkhpkpcjijpeaaGreatDoorNt
import Derived.Test.YtnkhpkpcjijpeaaGreatDoorWd
namespace Go.Proofs.YtnkhpkpcjijpeaaGreatDoor
set_option linter.unusedSimpArgs false
set_option linter.unusedVariables false
open Go Go.RowKit
set_option maxRecDepth 100000

set_option maxHeartbeats 800000 in
theorem Stat_ISTEXT (a : Option Addr) (n c : Nat) (w : World) : Calls Tryz.prog 32 #[.string ⟨#[73, 83, 84, 69, 88, 84]⟩, .slice a n c] w (Gives w (.tuple #[zeroVal, .bool false])) := by
  go_enter Tryz.func32, Tryz.ntmps32
  go_wp2
  exact bodyPost_ret (v := .tuple #[zeroVal, .bool false]) (by simp [results, Tryz.results32, go_sem, *]) rfl ⟨rfl, (by repeat (first | with_reducible exact Below.refl _ _ | with_reducible assumption | ((with_reducible refine Below.setCell ?_ ?_ _); rotate_left; (simp; try omega)) | (with_reducible refine Ext.tr ?_ (by with_reducible assumption)) | (with_reducible refine Ext.al ?_ _) | (with_reducible refine below_drewN ?_ _) | (with_reducible refine Below.drew ?_)))⟩

set_option maxHeartbeats 800000 in
theorem Criteria_ISTEXT (a : Option Addr) (n c : Nat) (w : World) : Calls Tryz.prog 33 #[.string ⟨#[73, 83, 84, 69, 88, 84]⟩, .slice a n c] w (Gives w (.tuple #[zeroVal, .bool false])) := by
  go_enter Tryz.func33, Tryz.ntmps33
  go_wp2
  exact bodyPost_ret (v := .tuple #[zeroVal, .bool false]) (by simp [results, Tryz.results33, go_sem, *]) rfl ⟨rfl, (by repeat (first | with_reducible exact Below.refl _ _ | with_reducible assumption | ((with_reducible refine Below.setCell ?_ ?_ _); rotate_left; (simp; try omega)) | (with_reducible refine Ext.tr ?_ (by with_reducible assumption)) | (with_reducible refine Ext.al ?_ _) | (with_reducible refine below_drewN ?_ _) | (with_reducible refine Below.drew ?_)))⟩

set_option maxHeartbeats 800000 in
theorem Lookup_ISTEXT (a : Option Addr) (n c : Nat) (w : World) : Calls Tryz.prog 34 #[.string ⟨#[73, 83, 84, 69, 88, 84]⟩, .slice a n c] w (Gives w (.tuple #[zeroVal, .bool false])) := by
  go_enter Tryz.func34, Tryz.ntmps34
  go_wp2
  exact bodyPost_ret (v := .tuple #[zeroVal, .bool false]) (by simp [results, Tryz.results34, go_sem, *]) rfl ⟨rfl, (by repeat (first | with_reducible exact Below.refl _ _ | with_reducible assumption | ((with_reducible refine Below.setCell ?_ ?_ _); rotate_left; (simp; try omega)) | (with_reducible refine Ext.tr ?_ (by with_reducible assumption)) | (with_reducible refine Ext.al ?_ _) | (with_reducible refine below_drewN ?_ _) | (with_reducible refine Below.drew ?_)))⟩

set_option maxHeartbeats 800000 in
theorem CallMath_ISTEXT (a : Option Addr) (n c : Nat) (w : World) : Calls Tryz.prog 35 #[.string ⟨#[73, 83, 84, 69, 88, 84]⟩, .slice a n c] w (Gives w (.tuple #[zeroVal, .bool false])) := by
  go_enter Tryz.func35, Tryz.ntmps35
  go_wp2
  exact bodyPost_ret (v := .tuple #[zeroVal, .bool false]) (by simp [results, Tryz.results35, go_sem, *]) rfl ⟨rfl, (by repeat (first | with_reducible exact Below.refl _ _ | with_reducible assumption | ((with_reducible refine Below.setCell ?_ ?_ _); rotate_left; (simp; try omega)) | (with_reducible refine Ext.tr ?_ (by with_reducible assumption)) | (with_reducible refine Ext.al ?_ _) | (with_reducible refine below_drewN ?_ _) | (with_reducible refine Below.drew ?_)))⟩

set_option maxHeartbeats 800000 in
theorem CallText_ISTEXT (a : Option Addr) (n c : Nat) (w : World) : Calls Tryz.prog 36 #[.string ⟨#[73, 83, 84, 69, 88, 84]⟩, .slice a n c] w (Gives w (.tuple #[zeroVal, .bool false])) := by
  go_enter Tryz.func36, Tryz.ntmps36
  go_wp2
  exact bodyPost_ret (v := .tuple #[zeroVal, .bool false]) (by simp [results, Tryz.results36, go_sem, *]) rfl ⟨rfl, (by repeat (first | with_reducible exact Below.refl _ _ | with_reducible assumption | ((with_reducible refine Below.setCell ?_ ?_ _); rotate_left; (simp; try omega)) | (with_reducible refine Ext.tr ?_ (by with_reducible assumption)) | (with_reducible refine Ext.al ?_ _) | (with_reducible refine below_drewN ?_ _) | (with_reducible refine Below.drew ?_)))⟩

set_option maxHeartbeats 800000 in
theorem CallLogic_ISTEXT (a : Option Addr) (n c : Nat) (w : World) : Calls Tryz.prog 37 #[.string ⟨#[73, 83, 84, 69, 88, 84]⟩, .slice a n c] w (Gives w (.tuple #[zeroVal, .bool false])) := by
  go_enter Tryz.func37, Tryz.ntmps37
  go_wp2
  exact bodyPost_ret (v := .tuple #[zeroVal, .bool false]) (by simp [results, Tryz.results37, go_sem, *]) rfl ⟨rfl, (by repeat (first | with_reducible exact Below.refl _ _ | with_reducible assumption | ((with_reducible refine Below.setCell ?_ ?_ _); rotate_left; (simp; try omega)) | (with_reducible refine Ext.tr ?_ (by with_reducible assumption)) | (with_reducible refine Ext.al ?_ _) | (with_reducible refine below_drewN ?_ _) | (with_reducible refine Below.drew ?_)))⟩

set_option maxHeartbeats 1600000 in
/-- The dispatch down to CallInfo. -/
theorem callOver_info (s : ByteArray) (v : Sc) (a : Option Addr) (n c : Nat) (w : World)
    (h1 : ∀ w', Ext w w' → Calls Tryz.prog 30 #[.string s, .slice a n c] w' (Gives w' (.bool true)))
    (h2 : ∀ w', Calls Tryz.prog 32 #[.string s, .slice a n c] w' (Gives w' (.tuple #[zeroVal, .bool false])))
    (h3 : ∀ w', Calls Tryz.prog 33 #[.string s, .slice a n c] w' (Gives w' (.tuple #[zeroVal, .bool false])))
    (h4 : ∀ w', Calls Tryz.prog 34 #[.string s, .slice a n c] w' (Gives w' (.tuple #[zeroVal, .bool false])))
    (h5 : ∀ w', Calls Tryz.prog 35 #[.string s, .slice a n c] w' (Gives w' (.tuple #[zeroVal, .bool false])))
    (h6 : ∀ w', Calls Tryz.prog 36 #[.string s, .slice a n c] w' (Gives w' (.tuple #[zeroVal, .bool false])))
    (h7 : ∀ w', Calls Tryz.prog 37 #[.string s, .slice a n c] w' (Gives w' (.tuple #[zeroVal, .bool false])))
    (h8 : ∀ w', Ext w w' → Calls Tryz.prog 38 #[.string s, .slice a n c] w' (Gives w' (.tuple #[v.val, .bool true]))) :
    Calls Tryz.prog 21 #[.string s, .slice a n c, .slice a n c] w (Gives w v.val) := by
  have H1 := Lib.hid h1; clear h1
  have H2 := Lib.hid h2; clear h2
  have H3 := Lib.hid h3; clear h3
  have H4 := Lib.hid h4; clear h4
  have H5 := Lib.hid h5; clear h5
  have H6 := Lib.hid h6; clear h6
  have H7 := Lib.hid h7; clear h7
  have H8 := Lib.hid h8; clear h8
  go_enter Tryz.func21, Tryz.ntmps21
  (go_wp2_with fail; refine (H1.out _ (by repeat (first | with_reducible exact Below.refl _ _ | with_reducible assumption | ((with_reducible refine Below.setCell ?_ ?_ _); rotate_left; (simp; try omega)) | (with_reducible refine Ext.tr ?_ (by with_reducible assumption)) | (with_reducible refine Ext.al ?_ _) | (with_reducible refine below_drewN ?_ _) | (with_reducible refine Below.drew ?_)))).mono ?_; rintro e w1 ⟨rfl, hb1⟩; obtain ⟨hc1, hf1, hz1⟩ := ext_facts hb1; (try simp at hz1); (have hq1_0 : w.heap.size < w1.heap.size := by omega); (have hl1_0 : w.heap.size ≤ w1.heap.size := by omega); (have hr1_0 := fun o => hc1 (w.heap.size) o (by first | omega | (simp; done) | (simp; omega))); (have hs1_0 := fun o => hf1 (w.heap.size) o (by first | omega | (simp; done) | (simp; omega))); (try simp (disch := first | omega | (simp; omega)) only [World.cell?_alloc_past, World.cell?_drew] at hr1_0); (try simp (disch := first | omega | (simp; omega)) only [World.frozen?_alloc_past, World.frozen?_drew] at hs1_0); clear hc1 hf1)
  (go_wp2_with fail; refine (H2.out _).mono ?_; rintro e w2 ⟨rfl, hb2⟩; obtain ⟨hc2, hf2, hz2⟩ := ext_facts hb2; (try simp at hz2); (have hq2_0 : w.heap.size < w2.heap.size := by omega); (have hl2_0 : w.heap.size ≤ w2.heap.size := by omega); (have hr2_0 := fun o => hc2 (w.heap.size) o (by first | omega | (simp; done) | (simp; omega))); (have hs2_0 := fun o => hf2 (w.heap.size) o (by first | omega | (simp; done) | (simp; omega))); (try simp (disch := first | omega | (simp; omega)) only [World.cell?_alloc_past, World.cell?_drew] at hr2_0); (try simp (disch := first | omega | (simp; omega)) only [World.frozen?_alloc_past, World.frozen?_drew] at hs2_0); clear hc2 hf2)
  (go_wp2_with fail; refine (H3.out _).mono ?_; rintro e w3 ⟨rfl, hb3⟩; obtain ⟨hc3, hf3, hz3⟩ := ext_facts hb3; (try simp at hz3); (have hq3_0 : w.heap.size < w3.heap.size := by omega); (have hl3_0 : w.heap.size ≤ w3.heap.size := by omega); (have hr3_0 := fun o => hc3 (w.heap.size) o (by first | omega | (simp; done) | (simp; omega))); (have hs3_0 := fun o => hf3 (w.heap.size) o (by first | omega | (simp; done) | (simp; omega))); (try simp (disch := first | omega | (simp; omega)) only [World.cell?_alloc_past, World.cell?_drew] at hr3_0); (try simp (disch := first | omega | (simp; omega)) only [World.frozen?_alloc_past, World.frozen?_drew] at hs3_0); clear hc3 hf3)
  (go_wp2_with fail; refine (H4.out _).mono ?_; rintro e w4 ⟨rfl, hb4⟩; obtain ⟨hc4, hf4, hz4⟩ := ext_facts hb4; (try simp at hz4); (have hq4_0 : w.heap.size < w4.heap.size := by omega); (have hl4_0 : w.heap.size ≤ w4.heap.size := by omega); (have hr4_0 := fun o => hc4 (w.heap.size) o (by first | omega | (simp; done) | (simp; omega))); (have hs4_0 := fun o => hf4 (w.heap.size) o (by first | omega | (simp; done) | (simp; omega))); (try simp (disch := first | omega | (simp; omega)) only [World.cell?_alloc_past, World.cell?_drew] at hr4_0); (try simp (disch := first | omega | (simp; omega)) only [World.frozen?_alloc_past, World.frozen?_drew] at hs4_0); clear hc4 hf4)
  (go_wp2_with fail; refine (H5.out _).mono ?_; rintro e w5 ⟨rfl, hb5⟩; obtain ⟨hc5, hf5, hz5⟩ := ext_facts hb5; (try simp at hz5); (have hq5_0 : w.heap.size < w5.heap.size := by omega); (have hl5_0 : w.heap.size ≤ w5.heap.size := by omega); (have hr5_0 := fun o => hc5 (w.heap.size) o (by first | omega | (simp; done) | (simp; omega))); (have hs5_0 := fun o => hf5 (w.heap.size) o (by first | omega | (simp; done) | (simp; omega))); (try simp (disch := first | omega | (simp; omega)) only [World.cell?_alloc_past, World.cell?_drew] at hr5_0); (try simp (disch := first | omega | (simp; omega)) only [World.frozen?_alloc_past, World.frozen?_drew] at hs5_0); clear hc5 hf5)
  (go_wp2_with fail; refine (H6.out _).mono ?_; rintro e w6 ⟨rfl, hb6⟩; obtain ⟨hc6, hf6, hz6⟩ := ext_facts hb6; (try simp at hz6); (have hq6_0 : w.heap.size < w6.heap.size := by omega); (have hl6_0 : w.heap.size ≤ w6.heap.size := by omega); (have hr6_0 := fun o => hc6 (w.heap.size) o (by first | omega | (simp; done) | (simp; omega))); (have hs6_0 := fun o => hf6 (w.heap.size) o (by first | omega | (simp; done) | (simp; omega))); (try simp (disch := first | omega | (simp; omega)) only [World.cell?_alloc_past, World.cell?_drew] at hr6_0); (try simp (disch := first | omega | (simp; omega)) only [World.frozen?_alloc_past, World.frozen?_drew] at hs6_0); clear hc6 hf6)
  (go_wp2_with fail; refine (H7.out _).mono ?_; rintro e w7 ⟨rfl, hb7⟩; obtain ⟨hc7, hf7, hz7⟩ := ext_facts hb7; (try simp at hz7); (have hq7_0 : w.heap.size < w7.heap.size := by omega); (have hl7_0 : w.heap.size ≤ w7.heap.size := by omega); (have hr7_0 := fun o => hc7 (w.heap.size) o (by first | omega | (simp; done) | (simp; omega))); (have hs7_0 := fun o => hf7 (w.heap.size) o (by first | omega | (simp; done) | (simp; omega))); (try simp (disch := first | omega | (simp; omega)) only [World.cell?_alloc_past, World.cell?_drew] at hr7_0); (try simp (disch := first | omega | (simp; omega)) only [World.frozen?_alloc_past, World.frozen?_drew] at hs7_0); clear hc7 hf7)
  (go_wp2_with fail; refine (H8.out _ (by repeat (first | with_reducible exact Below.refl _ _ | with_reducible assumption | ((with_reducible refine Below.setCell ?_ ?_ _); rotate_left; (simp; try omega)) | (with_reducible refine Ext.tr ?_ (by with_reducible assumption)) | (with_reducible refine Ext.al ?_ _) | (with_reducible refine below_drewN ?_ _) | (with_reducible refine Below.drew ?_)))).mono ?_; rintro e w8 ⟨rfl, hb8⟩; obtain ⟨hc8, hf8, hz8⟩ := ext_facts hb8; (try simp at hz8); (have hq8_0 : w.heap.size < w8.heap.size := by omega); (have hl8_0 : w.heap.size ≤ w8.heap.size := by omega); (have hr8_0 := fun o => hc8 (w.heap.size) o (by first | omega | (simp; done) | (simp; omega))); (have hs8_0 := fun o => hf8 (w.heap.size) o (by first | omega | (simp; done) | (simp; omega))); (try simp (disch := first | omega | (simp; omega)) only [World.cell?_alloc_past, World.cell?_drew] at hr8_0); (try simp (disch := first | omega | (simp; omega)) only [World.frozen?_alloc_past, World.frozen?_drew] at hs8_0); clear hc8 hf8)
  go_wp2
  exact bodyPost_ret (v := v.val) (by simp [results, Tryz.results21, go_sem, *]) rfl ⟨rfl, (by repeat (first | with_reducible exact Below.refl _ _ | with_reducible assumption | ((with_reducible refine Below.setCell ?_ ?_ _); rotate_left; (simp; try omega)) | (with_reducible refine Ext.tr ?_ (by with_reducible assumption)) | (with_reducible refine Ext.al ?_ _) | (with_reducible refine below_drewN ?_ _) | (with_reducible refine Below.drew ?_)))⟩

/-- What a law's value of any kind is: one of which something is said. -/
def Any1 (x : Sc) : Prop := (x.k = 0 ∨ x.k = 1 ∨ x.k = 3 ∨ x.k = 4) ∨ (x.k = 2 ∧ x.t.size ≤ 1000000000)

theorem other_word {s : ByteArray} (h : wordT s = true) : otherSc s = ⟨4, 0, 0, valueT⟩ := by unfold otherSc; rw [if_pos h]

set_option maxHeartbeats 1600000 in
/-- Read of a word: an error. -/
theorem read_word (s : ByteArray) (w : World) (hs : s.size ≤ 1000000000) (hw : wordT s = true) : Calls Tryz.prog 195 #[.string s] w (Gives w (errv valueT)) := by
  have ho := fun w' => other_ok s w' hs
  rw [other_word hw] at ho
  have HO := Lib.hid ho; clear ho
  obtain ⟨h0, g1, g2, g3, g4⟩ := letter_first hw
  clear hw
  go_enter Tryz.func195, Tryz.ntmps195
  go_wp2
  go_loop [3, 5, 6, 7, 8] (fun a nn mm dd pp => a = .int .i64 0 ∧ nn = .int .i64 0 ∧ mm = .int .i64 0 ∧ dd = .int .i64 1 ∧ pp = .bool false) (fun a _ _ _ _ => 1 - (intOf a).toNat)
  case atStart => exact ⟨rfl, rfl, rfl, rfl, rfl⟩
  case round =>
    obtain ⟨rfl, rfl, rfl, rfl, rfl⟩ := hrel
    go_wp2_with fail
    (go_wp2_with fail; refine (HO.out _).mono ?_; rintro e w1 ⟨rfl, hb1⟩; obtain ⟨hc1, hf1, hz1⟩ := ext_facts hb1; (try simp at hz1); (have hq1_0 : w.heap.size < w1.heap.size := by omega); (have hl1_0 : w.heap.size ≤ w1.heap.size := by omega); (have hr1_0 := fun o => hc1 (w.heap.size) o (by first | omega | (simp; done) | (simp; omega))); (have hs1_0 := fun o => hf1 (w.heap.size) o (by first | omega | (simp; done) | (simp; omega))); (try simp (disch := first | omega | (simp; omega)) only [World.cell?_alloc_past, World.cell?_drew] at hr1_0); (try simp (disch := first | omega | (simp; omega)) only [World.frozen?_alloc_past, World.frozen?_drew] at hs1_0); clear hc1 hf1)
    go_wp2
    exact bodyPost_ret (v := errv valueT) (by simp [results, Tryz.results195, go_sem, *]) rfl ⟨rfl, (by repeat (first | with_reducible exact Below.refl _ _ | with_reducible assumption | ((with_reducible refine Below.setCell ?_ ?_ _); rotate_left; (simp; try omega)) | (with_reducible refine Ext.tr ?_ (by with_reducible assumption)) | (with_reducible refine Ext.al ?_ _) | (with_reducible refine below_drewN ?_ _) | (with_reducible refine Below.drew ?_)))⟩

set_option maxHeartbeats 400000 in
theorem numeric_logic (n d : Int) (t : ByteArray) (w : World) : Calls Tryz.prog 123 #[Sc.val ⟨3, n, d, t⟩] w (Gives w (.bool true)) := by
  go_enter Tryz.func123, Tryz.ntmps123
  go_wp2
  go_ret
  exact ⟨rfl, (by repeat (first | with_reducible exact Below.refl _ _ | with_reducible assumption | ((with_reducible refine Below.setCell ?_ ?_ _); rotate_left; (simp; try omega)) | (with_reducible refine Ext.tr ?_ (by with_reducible assumption)) | (with_reducible refine Ext.al ?_ _) | (with_reducible refine below_drewN ?_ _) | (with_reducible refine Below.drew ?_)))⟩

/-- numeric of any single value says something. -/
theorem numeric_some (x : Sc) (w : World) (h : Any1 x ∨ x.k = 6) : Calls Tryz.prog 123 #[x.val] w fun e w' => ∃ r : Bool, e = .returned (.bool r) ∧ Ext w w' := by
  obtain ⟨k, n, d, t⟩ := x
  have key : ∀ r : Bool, Calls Tryz.prog 123 #[Sc.val ⟨k, n, d, t⟩] w (Gives w (.bool r)) → Calls Tryz.prog 123 #[Sc.val ⟨k, n, d, t⟩] w fun e w' => ∃ r : Bool, e = .returned (.bool r) ∧ Ext w w' :=
    fun r hr => hr.mono fun e w2 ⟨he, hb⟩ => ⟨_, he, hb⟩
  simp only [Any1] at h
  rcases h with ((rfl | rfl | rfl | rfl) | ⟨rfl, hs⟩) | rfl
  · exact key _ (numeric_not 0 n d t w (by simp))
  · exact key _ (numeric_num n d t w)
  · exact key _ (numeric_logic n d t w)
  · exact key _ (numeric_not 4 n d t w (by simp))
  · exact numeric_text n d t w hs
  · exact key _ (numeric_not 6 n d t w (by simp))

set_option maxHeartbeats 800000 in
theorem fitsNumbers_istext (x : Sc) (b o c : Nat) (w : World) (h : Any1 x ∨ x.k = 6) (hx : Lie w b o [x]) :
    Calls Tryz.prog 48 #[.string ⟨#[73, 83, 84, 69, 88, 84]⟩, .slice (some ⟨b, o, none⟩) 1 c] w (Gives w (.tuple #[.bool false, .bool false])) := by
  have hc1 := every_some [x] b o c w (by simp) hx 123 (fun args w => Tryz.call123 args w) fun y w' hm _ => by
    have e : y = x := by simpa using hm
    subst e; exact numeric_some y w' h
  have HC := Lib.hid hc1; clear hx hc1 h
  go_enter Tryz.func48, Tryz.ntmps48
  go_wp2_with fail
  refine HC.out.mono ?_
  rintro e w1 ⟨r, rfl, hb⟩
  go_wp2
  go_ret2
  exact ⟨rfl, hb⟩

set_option maxHeartbeats 800000 in
theorem fitsTexts_ISTEXT (a : Option Addr) (n c : Nat) (w : World) : Calls Tryz.prog 49 #[.string ⟨#[73, 83, 84, 69, 88, 84]⟩, .slice a n c] w (Gives w (.tuple #[.bool false, .bool false])) := by
  go_enter Tryz.func49, Tryz.ntmps49
  go_wp2
  go_ret2
  exact ⟨rfl, (by repeat (first | with_reducible exact Below.refl _ _ | with_reducible assumption | ((with_reducible refine Below.setCell ?_ ?_ _); rotate_left; (simp; try omega)) | (with_reducible refine Ext.tr ?_ (by with_reducible assumption)) | (with_reducible refine Ext.al ?_ _) | (with_reducible refine below_drewN ?_ _) | (with_reducible refine Below.drew ?_)))⟩

set_option maxHeartbeats 400000 in
theorem single_any (x : Sc) (w : World) : Calls Tryz.prog 140 #[x.val] w (Gives w (.bool (x.k != 5 && x.k != 6))) := by
  obtain ⟨k, n, d, t⟩ := x
  by_cases h5 : k = 5
  · subst h5
    go_enter Tryz.func140, Tryz.ntmps140
    go_wp2
    go_ret
    exact ⟨rfl, (by repeat (first | with_reducible exact Below.refl _ _ | with_reducible assumption | ((with_reducible refine Below.setCell ?_ ?_ _); rotate_left; (simp; try omega)) | (with_reducible refine Ext.tr ?_ (by with_reducible assumption)) | (with_reducible refine Ext.al ?_ _) | (with_reducible refine below_drewN ?_ _) | (with_reducible refine Below.drew ?_)))⟩
  · have h5' : (k != 5) = true := by simpa using h5
    go_enter Tryz.func140, Tryz.ntmps140
    go_wp2
    go_ret
    exact ⟨by simp [h5], (by repeat (first | with_reducible exact Below.refl _ _ | with_reducible assumption | ((with_reducible refine Below.setCell ?_ ?_ _); rotate_left; (simp; try omega)) | (with_reducible refine Ext.tr ?_ (by with_reducible assumption)) | (with_reducible refine Ext.al ?_ _) | (with_reducible refine below_drewN ?_ _) | (with_reducible refine Below.drew ?_)))⟩

end Go.Proofs.YtnkhpkpcjijpeaaGreatDoor
