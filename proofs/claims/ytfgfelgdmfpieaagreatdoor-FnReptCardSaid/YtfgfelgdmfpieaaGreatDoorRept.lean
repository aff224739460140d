/-
  REPT: the reference's side.
-/
import Derived.Test.YtfgfelgdmfpieaaGreatDoorNt
import Derived.Test.YtfgfelgdmfpieaaGreatDoorBitor
import Derived.Test.YtfgfelgdmfpieaaGreatDoorRp
namespace Go.Proofs.YtfgfelgdmfpieaaGreatDoor
set_option linter.unusedSimpArgs false
set_option linter.unusedVariables false
open Go Go.RowKit
set_option maxRecDepth 100000

set_option maxHeartbeats 800000 in
theorem Stat_REPT (a : Option Addr) (n c : Nat) (w : World) : Calls Tryz.prog 27 #[.string ⟨#[82, 69, 80, 84]⟩, .slice a n c] w (Gives w (.tuple #[zeroVal, .bool false])) := by
  go_enter Tryz.func27, Tryz.ntmps27
  go_wp2
  exact bodyPost_ret (v := .tuple #[zeroVal, .bool false]) (by simp [results, Tryz.results27, go_sem, *]) rfl ⟨rfl, (by repeat (first | with_reducible exact Below.refl _ _ | with_reducible assumption | ((with_reducible refine Below.setCell ?_ ?_ _); rotate_left; (simp; try omega)) | (with_reducible refine Ext.tr ?_ (by with_reducible assumption)) | (with_reducible refine Ext.al ?_ _) | (with_reducible refine below_drewN ?_ _) | (with_reducible refine Below.drew ?_)))⟩

set_option maxHeartbeats 800000 in
theorem Criteria_REPT (a : Option Addr) (n c : Nat) (w : World) : Calls Tryz.prog 28 #[.string ⟨#[82, 69, 80, 84]⟩, .slice a n c] w (Gives w (.tuple #[zeroVal, .bool false])) := by
  go_enter Tryz.func28, Tryz.ntmps28
  go_wp2
  exact bodyPost_ret (v := .tuple #[zeroVal, .bool false]) (by simp [results, Tryz.results28, go_sem, *]) rfl ⟨rfl, (by repeat (first | with_reducible exact Below.refl _ _ | with_reducible assumption | ((with_reducible refine Below.setCell ?_ ?_ _); rotate_left; (simp; try omega)) | (with_reducible refine Ext.tr ?_ (by with_reducible assumption)) | (with_reducible refine Ext.al ?_ _) | (with_reducible refine below_drewN ?_ _) | (with_reducible refine Below.drew ?_)))⟩

set_option maxHeartbeats 800000 in
theorem Lookup_REPT (a : Option Addr) (n c : Nat) (w : World) : Calls Tryz.prog 29 #[.string ⟨#[82, 69, 80, 84]⟩, .slice a n c] w (Gives w (.tuple #[zeroVal, .bool false])) := by
  go_enter Tryz.func29, Tryz.ntmps29
  go_wp2
  exact bodyPost_ret (v := .tuple #[zeroVal, .bool false]) (by simp [results, Tryz.results29, go_sem, *]) rfl ⟨rfl, (by repeat (first | with_reducible exact Below.refl _ _ | with_reducible assumption | ((with_reducible refine Below.setCell ?_ ?_ _); rotate_left; (simp; try omega)) | (with_reducible refine Ext.tr ?_ (by with_reducible assumption)) | (with_reducible refine Ext.al ?_ _) | (with_reducible refine below_drewN ?_ _) | (with_reducible refine Below.drew ?_)))⟩

set_option maxHeartbeats 800000 in
theorem CallMath_REPT (a : Option Addr) (n c : Nat) (w : World) : Calls Tryz.prog 30 #[.string ⟨#[82, 69, 80, 84]⟩, .slice a n c] w (Gives w (.tuple #[zeroVal, .bool false])) := by
  go_enter Tryz.func30, Tryz.ntmps30
  go_wp2
  exact bodyPost_ret (v := .tuple #[zeroVal, .bool false]) (by simp [results, Tryz.results30, go_sem, *]) rfl ⟨rfl, (by repeat (first | with_reducible exact Below.refl _ _ | with_reducible assumption | ((with_reducible refine Below.setCell ?_ ?_ _); rotate_left; (simp; try omega)) | (with_reducible refine Ext.tr ?_ (by with_reducible assumption)) | (with_reducible refine Ext.al ?_ _) | (with_reducible refine below_drewN ?_ _) | (with_reducible refine Below.drew ?_)))⟩

theorem between_whole (z : Sc) (lo hi : Int) (hz : Wh z) (w' : World) : Calls Tryz.prog 128 #[z.val, .int .i64 lo, .int .i64 hi] w' (Gives w' (.bool (numericOf z && (decide (lo ≤ z.n) && decide (z.n ≤ hi))))) := by
  rcases hz with ⟨n, rfl, _⟩ | rfl
  · have h := between_num n 1 lo hi w'
    rwa [show ((1 : Int) == 1) = true from rfl] at h
  · exact between_unsure lo hi w'

set_option maxHeartbeats 800000 in
theorem fitsNumbers_rept (s : ByteArray) (y : Sc) (b o c : Nat) (w : World) (hs : s.size ≤ 1000000000) (hy : Wh y) (hx : Lie w b o [txtSc s, y]) :
    Calls Tryz.prog 47 #[.string ⟨#[82, 69, 80, 84]⟩, .slice (some ⟨b, o, none⟩) 2 c] w (Gives w (.tuple #[.bool false, .bool false])) := by
  have hc1 : Calls Tryz.prog 126 #[.slice (some ⟨b, o, none⟩) 2 c, .func (.func 127) #[] #[]] w fun e w' => ∃ r : Bool, e = .returned (.bool r) ∧ Ext w w' := by
    refine every_some [txtSc s, y] b o c w (by simp) hx 127 (fun args w => Tryz.call127 args w) fun x w' hm _ => ?_
    rcases List.mem_cons.1 hm with rfl | hm
    · exact numeric_text 0 0 s w' hs
    · have e : x = y := by simpa using hm
      subst e
      exact (numeric_at x w' hy.kind).mono fun e w2 ⟨he, hb⟩ => ⟨_, he, hb⟩
  have HC := Lib.hid hc1; clear hx hc1 hs
  go_enter Tryz.func47, Tryz.ntmps47
  go_wp2_with fail
  refine HC.out.mono ?_
  rintro e w1 ⟨r, rfl, hb⟩
  go_wp2
  go_ret2
  exact ⟨rfl, hb⟩

set_option maxHeartbeats 800000 in
theorem fitsTexts_rept (s : ByteArray) (y : Sc) (b o c : Nat) (w : World) (hs : s.size ≤ 1000000000) (hy : Wh y) (hx : Lie w b o [txtSc s, y]) :
    Calls Tryz.prog 48 #[.string ⟨#[82, 69, 80, 84]⟩, .slice (some ⟨b, o, none⟩) 2 c] w (Gives w (.tuple #[.bool (asciiT s && (numericOf y && (decide (-99999999999 ≤ y.n) && decide (y.n ≤ 50)))), .bool true])) := by
  have ht := fun w' => ascii_ok s w' hs
  have hbt := fun w' => between_whole y (-99999999999) 50 hy w'
  generalize asciiT s = r at ht ⊢
  generalize (numericOf y && (decide (-99999999999 ≤ y.n) && decide (y.n ≤ 50))) = q at hbt ⊢
  have HT := Lib.hid ht; clear ht
  have HB := Lib.hid hbt; clear hbt
  have HX := Lib.hid hx
  obtain ⟨c0, c1, c2, c3, c4⟩ := hx 0 (txtSc s) rfl
  simp only [Nat.zero_mul, Nat.add_zero] at c0 c1 c2 c3 c4
  clear hx
  cases r
  · rw [Bool.false_and]
    go_enter Tryz.func48, Tryz.ntmps48
    (go_wp2_with fail; refine (HT.out _).mono ?_; rintro e w1 ⟨rfl, hb1⟩; obtain ⟨hc1, hf1, hz1⟩ := ext_facts hb1; (try simp at hz1); clear hc1 hf1)
    go_wp2
    go_ret2
    exact ⟨rfl, (by repeat (first | with_reducible exact Below.refl _ _ | with_reducible assumption | ((with_reducible refine Below.setCell ?_ ?_ _); rotate_left; (simp; try omega)) | (with_reducible refine Ext.tr ?_ (by with_reducible assumption)) | (with_reducible refine Ext.al ?_ _) | (with_reducible refine below_drewN ?_ _) | (with_reducible refine Below.drew ?_)))⟩
  · rw [Bool.true_and]
    cases q
    all_goals
      go_enter Tryz.func48, Tryz.ntmps48
      (go_wp2_with fail; refine (HT.out _).mono ?_; rintro e w1 ⟨rfl, hb1⟩; obtain ⟨hc1, hf1, hz1⟩ := ext_facts hb1; (try simp at hz1); clear hc1 hf1)
      obtain ⟨d0, d1, d2, d3, d4⟩ := (HX.out.ext (w' := w1) (by repeat (first | with_reducible exact Below.refl _ _ | with_reducible assumption | ((with_reducible refine Below.setCell ?_ ?_ _); rotate_left; (simp; try omega)) | (with_reducible refine Ext.tr ?_ (by with_reducible assumption)) | (with_reducible refine Ext.al ?_ _) | (with_reducible refine below_drewN ?_ _) | (with_reducible refine Below.drew ?_)))) 1 y rfl
      simp only [Nat.one_mul, Nat.add_assoc, Nat.reduceAdd] at d0 d1 d2 d3 d4
      (go_wp2_with fail; refine (HB.out _).mono ?_; rintro e w2 ⟨rfl, hb2⟩; obtain ⟨hc2, hf2, hz2⟩ := ext_facts hb2; (try simp at hz2); clear hc2 hf2)
      go_wp2
      go_ret2
      exact ⟨rfl, (by repeat (first | with_reducible exact Below.refl _ _ | with_reducible assumption | ((with_reducible refine Below.setCell ?_ ?_ _); rotate_left; (simp; try omega)) | (with_reducible refine Ext.tr ?_ (by with_reducible assumption)) | (with_reducible refine Ext.al ?_ _) | (with_reducible refine below_drewN ?_ _) | (with_reducible refine Below.drew ?_)))⟩

theorem fits_rept (s : ByteArray) (y : Sc) (b o c : Nat) (w : World) (hs : s.size ≤ 1000000000) (hy : Wh y) (hx : Lie w b o [txtSc s, y]) :
    Calls Tryz.prog 26 #[.string ⟨#[82, 69, 80, 84]⟩, .slice (some ⟨b, o, none⟩) 2 c] w (Gives w (.bool (asciiT s && (numericOf y && (decide (-99999999999 ≤ y.n) && decide (y.n ≤ 50)))))) :=
  fits_of_texts _ _ true _ _ _ w (fun w' hw => fitsNumbers_rept s y b o c w' hs hy (hx.ext hw)) (fun w' hw => fitsTexts_rept s y b o c w' hs hy (hx.ext hw))

/-- What REPT of a text and a number is. -/
def repSc (s : ByteArray) (n : Int) : Sc := if n < 0 then ⟨4, 0, 0, valueT⟩ else if 20000 < (s.size : Int) * n then ⟨6, 0, 0, ⟨#[]⟩⟩ else txtSc (rep s n.toNat)

set_option maxHeartbeats 6400000 in
theorem cut_rept (s : ByteArray) (n : Int) (b : Nat) (w : World) (hs : s.size ≤ 1000) (ha : asciiT s = true) (h1 : -99999999999 ≤ n) (h2 : n ≤ 50) (hx : Lie w b 0 [txtSc s, ⟨1, n, 1, ⟨#[]⟩⟩]) :
    Calls Tryz.prog 95 #[.string ⟨#[82, 69, 80, 84]⟩, .slice (some ⟨b, 0, none⟩) 2 2] w (Gives w (repSc s n).val) := by
  have hx2 : Lie w b 5 [⟨1, n, 1, ⟨#[]⟩⟩] := fun i y hy => by
    have := hx (i + 1) y (by simpa using hy)
    rwa [show 0 + (i + 1) * 5 = 5 + i * 5 by omega] at this
  have hx1 : Lie w b 0 [txtSc s] := fun i y hy => by
    cases i with
    | zero => exact hx 0 y (by simpa using hy)
    | succ i => simp at hy
  have hbl : b < w.heap.size := lt_of_cell (hx 0 (txtSc s) rfl).1
  have HF := Lib.hid (fun w' (hw : Ext w w') => first_none [txtSc s, ⟨1, n, 1, ⟨#[]⟩⟩] b 0 2 w' (by simp) (hx.ext hw) (by simp) (by simp))
  have HT := Lib.hid (fun w' (hw : Ext w w') c => texts_ok [txtSc s] b 0 c w' (by simp) (hx1.ext hw) (by simp) (fun x hm => by
    have e : x = txtSc s := by simpa using hm
    subst e; exact ⟨rfl, by show s.size ≤ _; omega, ha⟩))
  have HW := Lib.hid (fun w' (hw : Ext w w') c => wholes_ok [⟨1, n, 1, ⟨#[]⟩⟩] b 5 c w' (by simp) (hx2.ext hw) (by simp) (by simp))
  clear hx hx1 hx2 ha
  obtain ⟨v, hV⟩ : ∃ v, repSc s n = v := ⟨_, rfl⟩
  rw [hV]
  have HV := Lib.hid hV; clear hV
  go_enter Tryz.func95, Tryz.ntmps95
  (go_wp2_with fail; refine (HF.out _ (by repeat (first | with_reducible exact Below.refl _ _ | with_reducible assumption | ((with_reducible refine Below.setCell ?_ ?_ _); rotate_left; (simp; try omega)) | (with_reducible refine Ext.tr ?_ (by with_reducible assumption)) | (with_reducible refine Ext.al ?_ _) | (with_reducible refine below_drewN ?_ _) | (with_reducible refine Below.drew ?_)))).mono ?_; rintro e w1 ⟨rfl, hb1⟩; obtain ⟨hc1, hf1, hz1⟩ := ext_facts hb1; (try simp at hz1); (have hq1_0 : w.heap.size < w1.heap.size := by omega); (have hl1_0 : w.heap.size ≤ w1.heap.size := by omega); (have hr1_0 := fun o => hc1 (w.heap.size) o (by first | omega | (simp; done) | (simp; omega))); (have hs1_0 := fun o => hf1 (w.heap.size) o (by first | omega | (simp; done) | (simp; omega))); (try simp (disch := first | omega | (simp; omega)) only [World.cell?_alloc_past, World.cell?_drew] at hr1_0); (try simp (disch := first | omega | (simp; omega)) only [World.frozen?_alloc_past, World.frozen?_drew] at hs1_0); clear hc1 hf1)
  go_wp2_with fail
  refine (HT.out _ (by repeat (first | with_reducible exact Below.refl _ _ | with_reducible assumption | ((with_reducible refine Below.setCell ?_ ?_ _); rotate_left; (simp; try omega)) | (with_reducible refine Ext.tr ?_ (by with_reducible assumption)) | (with_reducible refine Ext.al ?_ _) | (with_reducible refine below_drewN ?_ _) | (with_reducible refine Below.drew ?_))) _).mono ?_
  rintro e w2 ⟨tv, rfl, hown, hb2⟩
  (obtain ⟨hc2, hf2, hz2⟩ := ext_facts hb2; (try simp at hz2); (have hq2_0 : w.heap.size < w2.heap.size := by omega); (have hl2_0 : w.heap.size ≤ w2.heap.size := by omega); (have hr2_0 := fun o => hc2 (w.heap.size) o (by first | omega | (simp; done) | (simp; omega))); (have hs2_0 := fun o => hf2 (w.heap.size) o (by first | omega | (simp; done) | (simp; omega))); (try simp (disch := first | omega | (simp; omega)) only [World.cell?_alloc_past, World.cell?_drew] at hr2_0); (try simp (disch := first | omega | (simp; omega)) only [World.frozen?_alloc_past, World.frozen?_drew] at hs2_0); (have hq2_1 : w1.heap.size < w2.heap.size := by omega); (have hl2_1 : w1.heap.size ≤ w2.heap.size := by omega); (have hr2_1 := fun o => hc2 (w1.heap.size) o (by first | omega | (simp; done) | (simp; omega))); (have hs2_1 := fun o => hf2 (w1.heap.size) o (by first | omega | (simp; done) | (simp; omega))); (try simp (disch := first | omega | (simp; omega)) only [World.cell?_alloc_past, World.cell?_drew] at hr2_1); (try simp (disch := first | omega | (simp; omega)) only [World.frozen?_alloc_past, World.frozen?_drew] at hs2_1); clear hc2 hf2)
  obtain ⟨g, cap, rfl, hg, hlie⟩ := hown.lie scells_len (by simp)
  have t0 := hlie 0 s rfl 0 _ rfl
  simp only [Nat.zero_mul, Nat.zero_add, Nat.add_zero] at t0
  have hglt : g < w2.heap.size := lt_of_cell t0
  have hgb : w1.heap.size < g := by simp at hg; omega
  have k1 : ¬ w.heap.size = g := by omega
  have k2 : ¬ w1.heap.size = g := by omega
  clear hown hlie
  go_wp2_with fail
  refine (HW.out _ (by repeat (first | with_reducible exact Below.refl _ _ | with_reducible assumption | ((with_reducible refine Below.setCell ?_ ?_ _); rotate_left; (simp; try omega)) | (with_reducible refine Ext.tr ?_ (by with_reducible assumption)) | (with_reducible refine Ext.al ?_ _) | (with_reducible refine below_drewN ?_ _) | (with_reducible refine Below.drew ?_))) _).mono ?_
  rintro e w3 ⟨nv, rfl, hown, hb3⟩
  (obtain ⟨hc3, hf3, hz3⟩ := ext_facts hb3; (try simp at hz3); (have hq3_0 : w.heap.size < w3.heap.size := by omega); (have hl3_0 : w.heap.size ≤ w3.heap.size := by omega); (have hr3_0 := fun o => hc3 (w.heap.size) o (by first | omega | (simp; done) | (simp; omega))); (have hs3_0 := fun o => hf3 (w.heap.size) o (by first | omega | (simp; done) | (simp; omega))); (try simp (disch := first | omega | (simp; omega)) only [World.cell?_alloc_past, World.cell?_drew] at hr3_0); (try simp (disch := first | omega | (simp; omega)) only [World.frozen?_alloc_past, World.frozen?_drew] at hs3_0); (have hq3_1 : w1.heap.size < w3.heap.size := by omega); (have hl3_1 : w1.heap.size ≤ w3.heap.size := by omega); (have hr3_1 := fun o => hc3 (w1.heap.size) o (by first | omega | (simp; done) | (simp; omega))); (have hs3_1 := fun o => hf3 (w1.heap.size) o (by first | omega | (simp; done) | (simp; omega))); (try simp (disch := first | omega | (simp; omega)) only [World.cell?_alloc_past, World.cell?_drew] at hr3_1); (try simp (disch := first | omega | (simp; omega)) only [World.frozen?_alloc_past, World.frozen?_drew] at hs3_1); (have hq3_2 : w2.heap.size < w3.heap.size := by omega); (have hl3_2 : w2.heap.size ≤ w3.heap.size := by omega); (have hr3_2 := fun o => hc3 (w2.heap.size) o (by first | omega | (simp; done) | (simp; omega))); (have hs3_2 := fun o => hf3 (w2.heap.size) o (by first | omega | (simp; done) | (simp; omega))); (try simp (disch := first | omega | (simp; omega)) only [World.cell?_alloc_past, World.cell?_drew] at hr3_2); (try simp (disch := first | omega | (simp; omega)) only [World.frozen?_alloc_past, World.frozen?_drew] at hs3_2); (have hq3_3 : g < w3.heap.size := by omega); (have hl3_3 : g ≤ w3.heap.size := by omega); (have hr3_3 := fun o => hc3 (g) o (by first | omega | (simp; done) | (simp; omega))); (have hs3_3 := fun o => hf3 (g) o (by first | omega | (simp; done) | (simp; omega))); (try simp (disch := first | omega | (simp; omega)) only [World.cell?_alloc_past, World.cell?_drew] at hr3_3); (try simp (disch := first | omega | (simp; omega)) only [World.frozen?_alloc_past, World.frozen?_drew] at hs3_3); clear hc3 hf3)
  obtain ⟨g2, cap2, rfl, hg2, hlie⟩ := hown.lie icells_len (by simp)
  have n0 := hlie 0 n rfl 0 _ rfl
  simp only [Nat.zero_mul, Nat.zero_add, Nat.add_zero] at n0
  have hglt2 : g2 < w3.heap.size := lt_of_cell n0
  have hgb2 : w2.heap.size < g2 := by simp at hg2; omega
  have k3 : ¬ w.heap.size = g2 := by omega
  have k4 : ¬ w1.heap.size = g2 := by omega
  have k5 : ¬ w2.heap.size = g2 := by omega
  have k6 : ¬ w2.heap.size = g := by omega
  clear hown hlie
  go_wp2_with fail
  by_cases hn : n < 0
  · have hv : v = ⟨4, 0, 0, valueT⟩ := by rw [← HV.out]; exact if_pos hn
    subst hv
    clear HV
    go_loop [12] (fun i => i = .int .i64 0) (fun i => 1 - (intOf i).toNat)
    case atStart => rfl
    case round =>
      subst hrel
      (go_wp2_with fail; refine (err_any _ _).mono ?_; rintro e w4 ⟨rfl, hb4⟩; obtain ⟨hc4, hf4, hz4⟩ := ext_facts hb4; (try simp at hz4); (have hq4_0 : w.heap.size < w4.heap.size := by omega); (have hl4_0 : w.heap.size ≤ w4.heap.size := by omega); (have hr4_0 := fun o => hc4 (w.heap.size) o (by first | omega | (simp; done) | (simp; omega))); (have hs4_0 := fun o => hf4 (w.heap.size) o (by first | omega | (simp; done) | (simp; omega))); (try simp (disch := first | omega | (simp; omega)) only [World.cell?_alloc_past, World.cell?_drew] at hr4_0); (try simp (disch := first | omega | (simp; omega)) only [World.frozen?_alloc_past, World.frozen?_drew] at hs4_0); clear hc4 hf4)
      go_wp2
      exact bodyPost_ret (v := errv valueT) (by simp [results, Tryz.results95, go_sem, *]) rfl ⟨rfl, (by repeat (first | with_reducible exact Below.refl _ _ | with_reducible assumption | ((with_reducible refine Below.setCell ?_ ?_ _); rotate_left; (simp; try omega)) | (with_reducible refine Ext.tr ?_ (by with_reducible assumption)) | (with_reducible refine Ext.al ?_ _) | (with_reducible refine below_drewN ?_ _) | (with_reducible refine Below.drew ?_)))⟩
  · have hP0 : 0 ≤ (s.size : Int) * n := Int.mul_nonneg (by omega) (by omega)
    have hP1 : (s.size : Int) * n ≤ 1000 * 50 := Int.mul_le_mul (by omega) h2 (by omega) (by omega)
    have hwr : wrap64 ((s.size : Int) * n) = (s.size : Int) * n := IntWalk.wrap64_in _ (by omega)
    by_cases hbig : 20000 < (s.size : Int) * n
    · have hv : v = ⟨6, 0, 0, ⟨#[]⟩⟩ := by rw [← HV.out]; unfold repSc; rw [if_neg hn, if_pos hbig]
      subst hv
      clear HV
      go_loop [12] (fun i => i = .int .i64 0 ∨ i = .int .i64 1) (fun i => 1 - (intOf i).toNat)
      case atStart => exact Or.inl rfl
      case round =>
        rcases hrel with rfl | rfl
        · go_wp2
          go_round
          case rel => exact Or.inr (by go_num)
          case measure => simp [intOf]
        · go_wp2_with fail
          go_quiet (fail)
          (go_wp2_with fail; refine (doubt_any _).mono ?_; rintro e w4 ⟨rfl, hb4⟩; obtain ⟨hc4, hf4, hz4⟩ := ext_facts hb4; (try simp at hz4); (have hq4_0 : w.heap.size < w4.heap.size := by omega); (have hl4_0 : w.heap.size ≤ w4.heap.size := by omega); (have hr4_0 := fun o => hc4 (w.heap.size) o (by first | omega | (simp; done) | (simp; omega))); (have hs4_0 := fun o => hf4 (w.heap.size) o (by first | omega | (simp; done) | (simp; omega))); (try simp (disch := first | omega | (simp; omega)) only [World.cell?_alloc_past, World.cell?_drew] at hr4_0); (try simp (disch := first | omega | (simp; omega)) only [World.frozen?_alloc_past, World.frozen?_drew] at hs4_0); clear hc4 hf4)
          go_wp2
          exact bodyPost_ret (v := unsure) (by simp [results, Tryz.results95, go_sem, *]) rfl ⟨rfl, (by repeat (first | with_reducible exact Below.refl _ _ | with_reducible assumption | ((with_reducible refine Below.setCell ?_ ?_ _); rotate_left; (simp; try omega)) | (with_reducible refine Ext.tr ?_ (by with_reducible assumption)) | (with_reducible refine Ext.al ?_ _) | (with_reducible refine below_drewN ?_ _) | (with_reducible refine Below.drew ?_)))⟩
    · have hv : v = txtSc (rep s n.toNat) := by rw [← HV.out]; unfold repSc; rw [if_neg hn, if_neg hbig]
      subst hv
      clear HV
      go_loop [12] (fun i => i = .int .i64 0 ∨ i = .int .i64 1) (fun i => 1 - (intOf i).toNat)
      case atStart => exact Or.inl rfl
      case round =>
        rcases hrel with rfl | rfl
        · go_wp2
          go_round
          case rel => exact Or.inr (by go_num)
          case measure => simp [intOf]
        · go_wp2_with fail
          go_quiet (fail)
          go_wp2_with fail
          clear hwr hP0 hP1 hbig
          go_loop [16, 17] (fun u i => ∃ k : Nat, (k : Int) ≤ n ∧ i = .int .i64 k ∧ u = .string (rep s k)) (fun _ i => n.toNat - (intOf i).toNat)
          case atStart => exact ⟨0, by omega, rfl, rfl⟩
          case round =>
            obtain ⟨k, hk, rfl, rfl⟩ := hrel
            by_cases hlt : (k : Int) < n
            · have hsz : (rep s k).size ≤ 50000 := by
                rw [rep_size]
                exact Nat.mul_le_mul (show k ≤ 50 by omega) hs
              go_wp2
              go_round
              case rel => exact ⟨k + 1, by omega, by go_num, by rw [rep_succ]⟩
              case measure => simp [intOf]; omega
            · have hke : n.toNat = k := by omega
              go_wp2_with fail
              (go_wp2_with fail; refine (str_any _ _).mono ?_; rintro e w4 ⟨rfl, hb4⟩; obtain ⟨hc4, hf4, hz4⟩ := ext_facts hb4; (try simp at hz4); (have hq4_0 : w.heap.size < w4.heap.size := by omega); (have hl4_0 : w.heap.size ≤ w4.heap.size := by omega); (have hr4_0 := fun o => hc4 (w.heap.size) o (by first | omega | (simp; done) | (simp; omega))); (have hs4_0 := fun o => hf4 (w.heap.size) o (by first | omega | (simp; done) | (simp; omega))); (try simp (disch := first | omega | (simp; omega)) only [World.cell?_alloc_past, World.cell?_drew] at hr4_0); (try simp (disch := first | omega | (simp; omega)) only [World.frozen?_alloc_past, World.frozen?_drew] at hs4_0); clear hc4 hf4)
              go_wp2
              exact bodyPost_ret (v := (txtSc (rep s k)).val) (by simp [results, Tryz.results95, go_sem, *]) rfl ⟨by rw [hke], (by repeat (first | with_reducible exact Below.refl _ _ | with_reducible assumption | ((with_reducible refine Below.setCell ?_ ?_ _); rotate_left; (simp; try omega)) | (with_reducible refine Ext.tr ?_ (by with_reducible assumption)) | (with_reducible refine Ext.al ?_ _) | (with_reducible refine below_drewN ?_ _) | (with_reducible refine Below.drew ?_)))⟩

set_option maxHeartbeats 800000 in
theorem callText_rept (s : ByteArray) (n : Int) (b : Nat) (w : World) (hs : s.size ≤ 1000) (ha : asciiT s = true) (h1 : -99999999999 ≤ n) (h2 : n ≤ 50) (hx : Lie w b 0 [txtSc s, ⟨1, n, 1, ⟨#[]⟩⟩]) :
    Calls Tryz.prog 31 #[.string ⟨#[82, 69, 80, 84]⟩, .slice (some ⟨b, 0, none⟩) 2 2] w (Gives w (.tuple #[(repSc s n).val, .bool true])) := by
  have HC := Lib.hid (fun w' h => cut_rept s n b w' hs ha h1 h2 (hx.ext h))
  obtain ⟨c0, c1, c2, c3, c4⟩ := hx 0 (txtSc s) rfl
  simp only [Nat.zero_mul, Nat.add_zero, Nat.zero_add] at c0 c1 c2 c3 c4
  have hbl : b < w.heap.size := lt_of_cell c0
  clear hx ha hs
  generalize repSc s n = r at HC ⊢
  go_enter Tryz.func31, Tryz.ntmps31
  (go_wp2_with fail; refine (HC.out _ (by repeat (first | with_reducible exact Below.refl _ _ | with_reducible assumption | ((with_reducible refine Below.setCell ?_ ?_ _); rotate_left; (simp; try omega)) | (with_reducible refine Ext.tr ?_ (by with_reducible assumption)) | (with_reducible refine Ext.al ?_ _) | (with_reducible refine below_drewN ?_ _) | (with_reducible refine Below.drew ?_)))).mono ?_; rintro e w1 ⟨rfl, hb1⟩; obtain ⟨hc1, hf1, hz1⟩ := ext_facts hb1; (try simp at hz1); (have hq1_0 : w.heap.size < w1.heap.size := by omega); (have hl1_0 : w.heap.size ≤ w1.heap.size := by omega); (have hr1_0 := fun o => hc1 (w.heap.size) o (by first | omega | (simp; done) | (simp; omega))); (have hs1_0 := fun o => hf1 (w.heap.size) o (by first | omega | (simp; done) | (simp; omega))); (try simp (disch := first | omega | (simp; omega)) only [World.cell?_alloc_past, World.cell?_drew] at hr1_0); (try simp (disch := first | omega | (simp; omega)) only [World.frozen?_alloc_past, World.frozen?_drew] at hs1_0); clear hc1 hf1)
  go_wp2
  exact bodyPost_ret (v := .tuple #[r.val, .bool true]) (by simp [results, Tryz.results31, go_sem, *]) rfl ⟨rfl, (by repeat (first | with_reducible exact Below.refl _ _ | with_reducible assumption | ((with_reducible refine Below.setCell ?_ ?_ _); rotate_left; (simp; try omega)) | (with_reducible refine Ext.tr ?_ (by with_reducible assumption)) | (with_reducible refine Ext.al ?_ _) | (with_reducible refine below_drewN ?_ _) | (with_reducible refine Below.drew ?_)))⟩

theorem callOver_rept (s : ByteArray) (n : Int) (b : Nat) (w : World) (hs : s.size ≤ 1000) (ha : asciiT s = true) (h1 : -99999999999 ≤ n) (h2 : n ≤ 50) (hx : Lie w b 0 [txtSc s, ⟨1, n, 1, ⟨#[]⟩⟩]) :
    Calls Tryz.prog 18 #[.string ⟨#[82, 69, 80, 84]⟩, .slice (some ⟨b, 0, none⟩) 2 2, .slice (some ⟨b, 0, none⟩) 2 2] w (Gives w (repSc s n).val) := by
  refine callOver_text _ (repSc s n) _ _ _ w (fun w' hw => ?_) (fun w' => Stat_REPT _ _ _ w') (fun w' => Criteria_REPT _ _ _ w') (fun w' => Lookup_REPT _ _ _ w') (fun w' => CallMath_REPT _ _ _ w')
    (fun w' hw => callText_rept s n b w' hs ha h1 h2 (hx.ext hw))
  have h := fits_rept s ⟨1, n, 1, ⟨#[]⟩⟩ b 0 2 w' (by omega) (Or.inl ⟨n, rfl, h1, by omega⟩) (hx.ext hw)
  rwa [ha, show (numericOf ⟨1, n, 1, ⟨#[]⟩⟩ && (decide (-99999999999 ≤ (⟨1, n, 1, ⟨#[]⟩⟩ : Sc).n) && decide ((⟨1, n, 1, ⟨#[]⟩⟩ : Sc).n ≤ 50))) = true by simp [numericOf, h1, h2]] at h
end Go.Proofs.YtfgfelgdmfpieaaGreatDoor
