/-
  other, letters: a word that is surely no number.
-/
import Derived.Test.YtlbhebmjdaaglaaGreatDoorRd
namespace Go.Proofs.YtlbhebmjdaaglaaGreatDoor
set_option linter.unusedSimpArgs false
set_option linter.unusedVariables false
open Go Go.RowKit
set_option maxRecDepth 100000

def isMonth (t : ByteArray) : Bool := decide (3 ≤ t.size) && monthT (t.extract 0 3).toList

set_option maxHeartbeats 1600000 in
theorem month_ok (t : ByteArray) (w : World) (ht : t.size ≤ 1000000000) : Calls Tryz.prog 39 #[.string t] w (Gives w (.bool (isMonth t))) := by
  by_cases h3 : 3 ≤ t.size
  · by_cases hm : monthT (t.extract 0 3).toList = true
    · have hr : isMonth t = true := by simp [isMonth, h3, hm]
      rw [hr]
      simp only [monthT, Bool.or_eq_true, beq_iff_eq] at hm
      clear hr
      rcases hm with (((((((((((((((((hl | hl) | hl) | hl) | hl) | hl) | hl) | hl) | hl) | hl) | hl) | hl) | hl) | hl) | hl) | hl) | hl) | hl) | hl
      all_goals
        go_enter Tryz.func39, Tryz.ntmps39
        go_wp2
        go_ret
        exact ⟨rfl, (by repeat (first | with_reducible exact Below.refl _ _ | with_reducible assumption | ((with_reducible refine Below.setCell ?_ ?_ _); rotate_left; (simp; try omega)) | (with_reducible refine Ext.tr ?_ (by with_reducible assumption)) | (with_reducible refine Ext.al ?_ _) | (with_reducible refine below_drewN ?_ _) | (with_reducible refine Below.drew ?_)))⟩
    · have hf : monthT (t.extract 0 3).toList = false := by simpa using hm
      have hr : isMonth t = false := by simp [isMonth, hf]
      rw [hr]
      simp only [monthT, Bool.or_eq_false_iff] at hf
      obtain ⟨⟨⟨⟨⟨⟨⟨⟨⟨⟨⟨⟨⟨⟨⟨⟨⟨⟨f0, f1⟩, f2⟩, f3⟩, f4⟩, f5⟩, f6⟩, f7⟩, f8⟩, f9⟩, f10⟩, f11⟩, f12⟩, f13⟩, f14⟩, f15⟩, f16⟩, f17⟩, f18⟩ := hf
      clear hr hm
      go_enter Tryz.func39, Tryz.ntmps39
      go_wp2
      go_ret
      exact ⟨rfl, (by repeat (first | with_reducible exact Below.refl _ _ | with_reducible assumption | ((with_reducible refine Below.setCell ?_ ?_ _); rotate_left; (simp; try omega)) | (with_reducible refine Ext.tr ?_ (by with_reducible assumption)) | (with_reducible refine Ext.al ?_ _) | (with_reducible refine below_drewN ?_ _) | (with_reducible refine Below.drew ?_)))⟩
  · go_enter Tryz.func39, Tryz.ntmps39
    go_wp2
    go_ret
    exact ⟨by simp [isMonth, h3], (by repeat (first | with_reducible exact Below.refl _ _ | with_reducible assumption | ((with_reducible refine Below.setCell ?_ ?_ _); rotate_left; (simp; try omega)) | (with_reducible refine Ext.tr ?_ (by with_reducible assumption)) | (with_reducible refine Ext.al ?_ _) | (with_reducible refine below_drewN ?_ _) | (with_reducible refine Below.drew ?_)))⟩

theorem lowT_size (s : ByteArray) : (lowT s).size = s.size := by
  show (s.data.toList.map Lib.lowerB).toArray.size = s.data.size
  simp

abbrev valueT : ByteArray := ⟨#[35, 86, 65, 76, 85, 69, 33]⟩

/-- What a text is that is no plain number. -/
def otherSc (s : ByteArray) : Sc := if wordT s then ⟨4, 0, 0, valueT⟩ else ⟨6, 0, 0, ⟨#[]⟩⟩

set_option maxHeartbeats 3200000 in
theorem other_ok (s : ByteArray) (w : World) (hs : s.size ≤ 1000000000) : Calls Tryz.prog 22 #[.string s] w (Gives w (otherSc s).val) := by
  have HLO := Lib.hid (fun w' => lower_ok s w' hs)
  have HM := Lib.hid (fun w' => month_ok (lowT s) w' (by rw [lowT_size]; exact hs))
  obtain ⟨v, hV⟩ : ∃ v, otherSc s = v := ⟨_, rfl⟩
  rw [hV]
  have HV := Lib.hid hV; clear hV
  go_enter Tryz.func22, Tryz.ntmps22
  go_wp2
  go_loopw [3] (fun i wr => ∃ k : Nat, k ≤ s.size ∧ i = .int .i64 k ∧ Ext (w.alloc (.cells #[.int .i64 0, .int .i64 0, .int .i64 0, .string ⟨#[]⟩, .slice none 0 0] 24)) wr ∧ (s.data.toList.take k).all letB = true) (fun i _ => s.size - (intOf i).toNat)
  case atStart => exact ⟨0, Nat.zero_le _, rfl, Ext.rf _, rfl⟩
  case round =>
    obtain ⟨k, hk, rfl, hb, hall⟩ := hrel
    have HA := Lib.hid hall; clear hall
    have hsz := hb.size
    simp only [World.size_alloc] at hsz
    obtain ⟨hcA, hfA, hzA⟩ := ext_facts hb
    have hrA := fun o => hcA w.heap.size o (by simp)
    have hsA := fun o => hfA w.heap.size o (by simp)
    have hqA : w.heap.size < wr.heap.size := by omega
    clear hcA hfA
    by_cases hlt : k < s.size
    · have hbyte := byte_at hlt
      have HN := Lib.hid (all_take_succ hbyte letB)
      have HB := Lib.hid hbyte
      clear hbyte
      go_wp2_with fail
      refine (loB_ok (s[k]'hlt) _).mono ?_
      rintro e w1 ⟨rfl, hb1⟩
      have hb2 := hb.tr hb1
      have hsz2 := hb2.size
      simp only [World.size_alloc] at hsz2
      (obtain ⟨hc1, hf1, hz1⟩ := ext_facts hb1; (try simp at hz1); (have hq1_0 : w.heap.size < w1.heap.size := by omega); (have hl1_0 : w.heap.size ≤ w1.heap.size := by omega); (have hr1_0 := fun o => hc1 (w.heap.size) o (by first | omega | (simp; done) | (simp; omega))); (have hs1_0 := fun o => hf1 (w.heap.size) o (by first | omega | (simp; done) | (simp; omega))); (try simp (disch := first | omega | (simp; omega)) only [World.cell?_alloc_past, World.cell?_drew] at hr1_0); (try simp (disch := first | omega | (simp; omega)) only [World.frozen?_alloc_past, World.frozen?_drew] at hs1_0); clear hc1 hf1)
      by_cases hl : letB (s[k]'hlt) = true
      · have h1 : ¬ ((Lib.lowerB (s[k]'hlt)).toNat : Int) < 97 := by intro h; simp [letB, h] at hl
        have h2 : ¬ (122 : Int) < ((Lib.lowerB (s[k]'hlt)).toNat : Int) := by intro h; simp [letB, h] at hl
        have HL := Lib.hid hl; clear hl
        go_wp2
        go_roundw
        case rel => exact ⟨k + 1, by omega, by go_num, hb2, by rw [HN.out, HA.out, HL.out]; rfl⟩
        case measure => simp [intOf]; omega
      · have hf : wordT s = false := by
          unfold wordT
          rw [show s.data.toList.all letB = false from List.all_eq_false.2 ⟨_, List.mem_of_getElem? HB.out, hl⟩]; rfl
        have hv : otherSc s = ⟨6, 0, 0, ⟨#[]⟩⟩ := by unfold otherSc; rw [hf]; rfl
        have hve : v = ⟨6, 0, 0, ⟨#[]⟩⟩ := HV.out.symm.trans hv
        subst hve
        clear hf hv
        have h12 : ((Lib.lowerB (s[k]'hlt)).toNat : Int) < 97 ∨ (¬ ((Lib.lowerB (s[k]'hlt)).toNat : Int) < 97 ∧ (122 : Int) < ((Lib.lowerB (s[k]'hlt)).toNat : Int)) := by
          by_cases h1 : ((Lib.lowerB (s[k]'hlt)).toNat : Int) < 97
          · exact Or.inl h1
          · refine Or.inr ⟨h1, ?_⟩
            apply Classical.byContradiction; intro h2
            exact hl (by simp [letB]; omega)
        rcases h12 with h1 | ⟨h1, h2⟩
        all_goals
          go_wp2_with (go_at_call 25; refine (doubt_any _).mono ?_; rintro e w1 ⟨rfl, hb⟩; obtain ⟨hc, hf, hz⟩ := ext_facts hb; (try simp at hz); (try (have hq : w.heap.size < w1.heap.size := by omega)); (try (have hq' : w.heap.size ≤ w1.heap.size := by omega)); (try (have hr := fun o => hc w.heap.size o (by first | omega | (simp; done) | (simp; omega)))); (try (have hrf := fun o => hf w.heap.size o (by first | omega | (simp; done) | (simp; omega)))))
          exact bodyPost_ret (v := unsure) (by simp [results, Tryz.results22, go_sem, *]) rfl ⟨rfl, (by repeat (first | with_reducible exact Below.refl _ _ | with_reducible assumption | ((with_reducible refine Below.setCell ?_ ?_ _); rotate_left; (simp; try omega)) | (with_reducible refine Ext.tr ?_ (by with_reducible assumption)) | (with_reducible refine Ext.al ?_ _) | (with_reducible refine below_drewN ?_ _) | (with_reducible refine Below.drew ?_)))⟩
    · have hall : s.data.toList.all letB = true := by
        have h := HA.out
        rw [List.take_of_length_le (by simp; omega)] at h
        exact h
      have hw : wordT s = (!oddWord (lowT s).toList && (decide (2 ≤ s.size) && !isMonth (lowT s))) := by
        unfold wordT isMonth; rw [hall]; rfl
      clear HA
      by_cases ho : oddWord (lowT s).toList = true
      · have hv : otherSc s = ⟨6, 0, 0, ⟨#[]⟩⟩ := by unfold otherSc; rw [hw, ho]; rfl
        have hve : v = ⟨6, 0, 0, ⟨#[]⟩⟩ := HV.out.symm.trans hv
        subst hve
        clear hw hv hall HM HV
        simp only [oddWord, Bool.or_eq_true, beq_iff_eq] at ho
        generalize lowT s = t at *
        rcases ho with ((((((((((hl | hl) | hl) | hl) | hl) | hl) | hl) | hl) | hl) | hl) | hl)
        all_goals
          go_wp2_with fail
          refine (HLO.out _).mono ?_
          rintro e w1 ⟨rfl, hb1⟩
          have hb2 := hb.tr hb1
          (obtain ⟨hc1, hf1, hz1⟩ := ext_facts hb1; (try simp at hz1); (have hq1_0 : w.heap.size < w1.heap.size := by omega); (have hl1_0 : w.heap.size ≤ w1.heap.size := by omega); (have hr1_0 := fun o => hc1 (w.heap.size) o (by first | omega | (simp; done) | (simp; omega))); (have hs1_0 := fun o => hf1 (w.heap.size) o (by first | omega | (simp; done) | (simp; omega))); (try simp (disch := first | omega | (simp; omega)) only [World.cell?_alloc_past, World.cell?_drew] at hr1_0); (try simp (disch := first | omega | (simp; omega)) only [World.frozen?_alloc_past, World.frozen?_drew] at hs1_0); clear hc1 hf1)
          (go_wp2_with fail; refine (doubt_any _).mono ?_; rintro e w2 ⟨rfl, hb2⟩; obtain ⟨hc2, hf2, hz2⟩ := ext_facts hb2; (try simp at hz2); (have hq2_0 : w.heap.size < w2.heap.size := by omega); (have hl2_0 : w.heap.size ≤ w2.heap.size := by omega); (have hr2_0 := fun o => hc2 (w.heap.size) o (by first | omega | (simp; done) | (simp; omega))); (have hs2_0 := fun o => hf2 (w.heap.size) o (by first | omega | (simp; done) | (simp; omega))); (try simp (disch := first | omega | (simp; omega)) only [World.cell?_alloc_past, World.cell?_drew] at hr2_0); (try simp (disch := first | omega | (simp; omega)) only [World.frozen?_alloc_past, World.frozen?_drew] at hs2_0); clear hc2 hf2)
          go_wp2
          exact bodyPost_ret (v := unsure) (by simp [results, Tryz.results22, go_sem, *]) rfl ⟨rfl, (by repeat (first | with_reducible exact Below.refl _ _ | with_reducible assumption | ((with_reducible refine Below.setCell ?_ ?_ _); rotate_left; (simp; try omega)) | (with_reducible refine Ext.tr ?_ (by with_reducible assumption)) | (with_reducible refine Ext.al ?_ _) | (with_reducible refine below_drewN ?_ _) | (with_reducible refine Below.drew ?_)))⟩
      · have hf : oddWord (lowT s).toList = false := by simpa using ho
        rw [hf] at hw
        have hf2 := hf
        simp only [oddWord, Bool.or_eq_false_iff] at hf2
        obtain ⟨⟨⟨⟨⟨⟨⟨⟨⟨⟨f0, f1⟩, f2⟩, f3⟩, f4⟩, f5⟩, f6⟩, f7⟩, f8⟩, f9⟩, f10⟩ := hf2
        clear ho hf hall
        by_cases h2 : 2 ≤ s.size
        · cases hm : isMonth (lowT s)
          · have hv : otherSc s = ⟨4, 0, 0, valueT⟩ := by unfold otherSc; rw [hw, hm, decide_eq_true h2]; rfl
            have hve : v = ⟨4, 0, 0, valueT⟩ := HV.out.symm.trans hv
            subst hve
            clear HV
            rw [hm] at HM
            clear hw hv hm
            generalize lowT s = t at *
            go_wp2_with fail
            refine (HLO.out _).mono ?_
            rintro e w1 ⟨rfl, hb1⟩
            have hb2 := hb.tr hb1
            (obtain ⟨hc1, hf1, hz1⟩ := ext_facts hb1; (try simp at hz1); (have hq1_0 : w.heap.size < w1.heap.size := by omega); (have hl1_0 : w.heap.size ≤ w1.heap.size := by omega); (have hr1_0 := fun o => hc1 (w.heap.size) o (by first | omega | (simp; done) | (simp; omega))); (have hs1_0 := fun o => hf1 (w.heap.size) o (by first | omega | (simp; done) | (simp; omega))); (try simp (disch := first | omega | (simp; omega)) only [World.cell?_alloc_past, World.cell?_drew] at hr1_0); (try simp (disch := first | omega | (simp; omega)) only [World.frozen?_alloc_past, World.frozen?_drew] at hs1_0); clear hc1 hf1)
            (go_wp2_with fail; refine (HLO.out _).mono ?_; rintro e w4 ⟨rfl, hb4⟩; obtain ⟨hc4, hf4, hz4⟩ := ext_facts hb4; (try simp at hz4); (have hq4_0 : w.heap.size < w4.heap.size := by omega); (have hl4_0 : w.heap.size ≤ w4.heap.size := by omega); (have hr4_0 := fun o => hc4 (w.heap.size) o (by first | omega | (simp; done) | (simp; omega))); (have hs4_0 := fun o => hf4 (w.heap.size) o (by first | omega | (simp; done) | (simp; omega))); (try simp (disch := first | omega | (simp; omega)) only [World.cell?_alloc_past, World.cell?_drew] at hr4_0); (try simp (disch := first | omega | (simp; omega)) only [World.frozen?_alloc_past, World.frozen?_drew] at hs4_0); clear hc4 hf4)
            (go_wp2_with fail; refine (HM.out _).mono ?_; rintro e w2 ⟨rfl, hb2⟩; obtain ⟨hc2, hf2, hz2⟩ := ext_facts hb2; (try simp at hz2); (have hq2_0 : w.heap.size < w2.heap.size := by omega); (have hl2_0 : w.heap.size ≤ w2.heap.size := by omega); (have hr2_0 := fun o => hc2 (w.heap.size) o (by first | omega | (simp; done) | (simp; omega))); (have hs2_0 := fun o => hf2 (w.heap.size) o (by first | omega | (simp; done) | (simp; omega))); (try simp (disch := first | omega | (simp; omega)) only [World.cell?_alloc_past, World.cell?_drew] at hr2_0); (try simp (disch := first | omega | (simp; omega)) only [World.frozen?_alloc_past, World.frozen?_drew] at hs2_0); clear hc2 hf2)
            (go_wp2_with fail; refine (err_any _ _).mono ?_; rintro e w3 ⟨rfl, hb3⟩; obtain ⟨hc3, hf3, hz3⟩ := ext_facts hb3; (try simp at hz3); (have hq3_0 : w.heap.size < w3.heap.size := by omega); (have hl3_0 : w.heap.size ≤ w3.heap.size := by omega); (have hr3_0 := fun o => hc3 (w.heap.size) o (by first | omega | (simp; done) | (simp; omega))); (have hs3_0 := fun o => hf3 (w.heap.size) o (by first | omega | (simp; done) | (simp; omega))); (try simp (disch := first | omega | (simp; omega)) only [World.cell?_alloc_past, World.cell?_drew] at hr3_0); (try simp (disch := first | omega | (simp; omega)) only [World.frozen?_alloc_past, World.frozen?_drew] at hs3_0); clear hc3 hf3)
            go_wp2
            exact bodyPost_ret (v := errv valueT) (by simp [results, Tryz.results22, go_sem, *]) rfl ⟨rfl, (by repeat (first | with_reducible exact Below.refl _ _ | with_reducible assumption | ((with_reducible refine Below.setCell ?_ ?_ _); rotate_left; (simp; try omega)) | (with_reducible refine Ext.tr ?_ (by with_reducible assumption)) | (with_reducible refine Ext.al ?_ _) | (with_reducible refine below_drewN ?_ _) | (with_reducible refine Below.drew ?_)))⟩
          · have hv : otherSc s = ⟨6, 0, 0, ⟨#[]⟩⟩ := by unfold otherSc; rw [hw, hm, decide_eq_true h2]; rfl
            have hve : v = ⟨6, 0, 0, ⟨#[]⟩⟩ := HV.out.symm.trans hv
            subst hve
            clear HV
            rw [hm] at HM
            clear hw hv hm
            generalize lowT s = t at *
            go_wp2_with fail
            refine (HLO.out _).mono ?_
            rintro e w1 ⟨rfl, hb1⟩
            have hb2 := hb.tr hb1
            (obtain ⟨hc1, hf1, hz1⟩ := ext_facts hb1; (try simp at hz1); (have hq1_0 : w.heap.size < w1.heap.size := by omega); (have hl1_0 : w.heap.size ≤ w1.heap.size := by omega); (have hr1_0 := fun o => hc1 (w.heap.size) o (by first | omega | (simp; done) | (simp; omega))); (have hs1_0 := fun o => hf1 (w.heap.size) o (by first | omega | (simp; done) | (simp; omega))); (try simp (disch := first | omega | (simp; omega)) only [World.cell?_alloc_past, World.cell?_drew] at hr1_0); (try simp (disch := first | omega | (simp; omega)) only [World.frozen?_alloc_past, World.frozen?_drew] at hs1_0); clear hc1 hf1)
            (go_wp2_with fail; refine (HLO.out _).mono ?_; rintro e w4 ⟨rfl, hb4⟩; obtain ⟨hc4, hf4, hz4⟩ := ext_facts hb4; (try simp at hz4); (have hq4_0 : w.heap.size < w4.heap.size := by omega); (have hl4_0 : w.heap.size ≤ w4.heap.size := by omega); (have hr4_0 := fun o => hc4 (w.heap.size) o (by first | omega | (simp; done) | (simp; omega))); (have hs4_0 := fun o => hf4 (w.heap.size) o (by first | omega | (simp; done) | (simp; omega))); (try simp (disch := first | omega | (simp; omega)) only [World.cell?_alloc_past, World.cell?_drew] at hr4_0); (try simp (disch := first | omega | (simp; omega)) only [World.frozen?_alloc_past, World.frozen?_drew] at hs4_0); clear hc4 hf4)
            (go_wp2_with fail; refine (HM.out _).mono ?_; rintro e w2 ⟨rfl, hb2⟩; obtain ⟨hc2, hf2, hz2⟩ := ext_facts hb2; (try simp at hz2); (have hq2_0 : w.heap.size < w2.heap.size := by omega); (have hl2_0 : w.heap.size ≤ w2.heap.size := by omega); (have hr2_0 := fun o => hc2 (w.heap.size) o (by first | omega | (simp; done) | (simp; omega))); (have hs2_0 := fun o => hf2 (w.heap.size) o (by first | omega | (simp; done) | (simp; omega))); (try simp (disch := first | omega | (simp; omega)) only [World.cell?_alloc_past, World.cell?_drew] at hr2_0); (try simp (disch := first | omega | (simp; omega)) only [World.frozen?_alloc_past, World.frozen?_drew] at hs2_0); clear hc2 hf2)
            (go_wp2_with fail; refine (doubt_any _).mono ?_; rintro e w3 ⟨rfl, hb3⟩; obtain ⟨hc3, hf3, hz3⟩ := ext_facts hb3; (try simp at hz3); (have hq3_0 : w.heap.size < w3.heap.size := by omega); (have hl3_0 : w.heap.size ≤ w3.heap.size := by omega); (have hr3_0 := fun o => hc3 (w.heap.size) o (by first | omega | (simp; done) | (simp; omega))); (have hs3_0 := fun o => hf3 (w.heap.size) o (by first | omega | (simp; done) | (simp; omega))); (try simp (disch := first | omega | (simp; omega)) only [World.cell?_alloc_past, World.cell?_drew] at hr3_0); (try simp (disch := first | omega | (simp; omega)) only [World.frozen?_alloc_past, World.frozen?_drew] at hs3_0); clear hc3 hf3)
            go_wp2
            exact bodyPost_ret (v := unsure) (by simp [results, Tryz.results22, go_sem, *]) rfl ⟨rfl, (by repeat (first | with_reducible exact Below.refl _ _ | with_reducible assumption | ((with_reducible refine Below.setCell ?_ ?_ _); rotate_left; (simp; try omega)) | (with_reducible refine Ext.tr ?_ (by with_reducible assumption)) | (with_reducible refine Ext.al ?_ _) | (with_reducible refine below_drewN ?_ _) | (with_reducible refine Below.drew ?_)))⟩
        · have hv : otherSc s = ⟨6, 0, 0, ⟨#[]⟩⟩ := by unfold otherSc; rw [hw, decide_eq_false h2]; rfl
          have hve : v = ⟨6, 0, 0, ⟨#[]⟩⟩ := HV.out.symm.trans hv
          subst hve
          clear HV
          clear hw hv HM
          generalize lowT s = t at *
          go_wp2_with fail
          refine (HLO.out _).mono ?_
          rintro e w1 ⟨rfl, hb1⟩
          have hb2 := hb.tr hb1
          (obtain ⟨hc1, hf1, hz1⟩ := ext_facts hb1; (try simp at hz1); (have hq1_0 : w.heap.size < w1.heap.size := by omega); (have hl1_0 : w.heap.size ≤ w1.heap.size := by omega); (have hr1_0 := fun o => hc1 (w.heap.size) o (by first | omega | (simp; done) | (simp; omega))); (have hs1_0 := fun o => hf1 (w.heap.size) o (by first | omega | (simp; done) | (simp; omega))); (try simp (disch := first | omega | (simp; omega)) only [World.cell?_alloc_past, World.cell?_drew] at hr1_0); (try simp (disch := first | omega | (simp; omega)) only [World.frozen?_alloc_past, World.frozen?_drew] at hs1_0); clear hc1 hf1)
          (go_wp2_with fail; refine (doubt_any _).mono ?_; rintro e w3 ⟨rfl, hb3⟩; obtain ⟨hc3, hf3, hz3⟩ := ext_facts hb3; (try simp at hz3); (have hq3_0 : w.heap.size < w3.heap.size := by omega); (have hl3_0 : w.heap.size ≤ w3.heap.size := by omega); (have hr3_0 := fun o => hc3 (w.heap.size) o (by first | omega | (simp; done) | (simp; omega))); (have hs3_0 := fun o => hf3 (w.heap.size) o (by first | omega | (simp; done) | (simp; omega))); (try simp (disch := first | omega | (simp; omega)) only [World.cell?_alloc_past, World.cell?_drew] at hr3_0); (try simp (disch := first | omega | (simp; omega)) only [World.frozen?_alloc_past, World.frozen?_drew] at hs3_0); clear hc3 hf3)
          go_wp2
          exact bodyPost_ret (v := unsure) (by simp [results, Tryz.results22, go_sem, *]) rfl ⟨rfl, (by repeat (first | with_reducible exact Below.refl _ _ | with_reducible assumption | ((with_reducible refine Below.setCell ?_ ?_ _); rotate_left; (simp; try omega)) | (with_reducible refine Ext.tr ?_ (by with_reducible assumption)) | (with_reducible refine Ext.al ?_ _) | (with_reducible refine below_drewN ?_ _) | (with_reducible refine Below.drew ?_)))⟩
end Go.Proofs.YtlbhebmjdaaglaaGreatDoor
