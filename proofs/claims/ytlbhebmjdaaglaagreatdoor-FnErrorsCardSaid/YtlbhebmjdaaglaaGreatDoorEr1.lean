/-
  Value, ISLOGICAL, ISNUMBER, ISBLANK, ISNA of the package.
  ISLOGICAL, ISNUMBER, ISBLANK, ISNA, ISERROR, ISERR of the package.
  ISNA, ISERROR, ISERR of the package.
-/
import Derived.Test.YtlbhebmjdaaglaaGreatDoorPIt
import Derived.Test.YtlbhebmjdaaglaaGreatDoorFt9
import Derived.Lib.Fold
namespace Go.Proofs.YtlbhebmjdaaglaaGreatDoor
set_option linter.unusedSimpArgs false
set_option linter.unusedVariables false
open Go Go.RowKit
set_option maxRecDepth 100000

/-- The cells of a single value as formulaArg. -/
abbrev faC (x : Nat) (s : ByteArray) (bb : Bool) (m : ByteArray) (k : Int) : Array Value := #[.string ⟨#[]⟩, .float .f64 x, .string s, .slice none 0 0, .slice none 0 0, .bool bb, .string m, .int .u8 k, .pointer none, .pointer none]

theorem newBool_w (r : Bool) (w : World) : Calls Tryz.prog 57 #[.bool r] w (Gives w (fbool (oneW r))) := by
  cases r
  · exact newBool_false w
  · exact newBool_true w

/-- How a text stands to TRUE and FALSE. -/
structure FoldsTo (t : ByteArray) (a1 a2 : Bool) : Prop where
  size : t.size ≤ 1000000000
  ascii : ∀ (j : Nat) b, t.data.toList[j]? = some b → b.toNat < 128
  yes : Lib.equalFold [84, 82, 85, 69] t.data.toList = a1
  no : Lib.equalFold [70, 65, 76, 83, 69] t.data.toList = a2

theorem folds_low {a b : List UInt8} (h : Lib.equalFold a b = true) : b.map Lib.lowerB = a.map Lib.lowerB := by
  induction a generalizing b with
  | nil => cases b with
    | nil => rfl
    | cons y t => simp [Lib.equalFold] at h
  | cons x s ih => cases b with
    | nil => simp [Lib.equalFold] at h
    | cons y t =>
      simp only [Lib.equalFold, Bool.and_eq_true] at h
      rw [List.map_cons, List.map_cons, ih h.2]
      congr 1
      have h1 := h.1
      unfold Lib.foldEq at h1
      have h2 := of_decide_eq_true h1
      have hx := loB_int x
      have hy := loB_int y
      apply UInt8.toNat_inj.1
      split at hx <;> split at hy <;> omega

theorem ascii_of_letT {s : ByteArray} (h : LetT s) : ∀ (j : Nat) b, s.data.toList[j]? = some b → b.toNat < 128 := fun j b hb => by
  have := h b (List.mem_of_getElem? hb); omega

theorem folds_word {s : ByteArray} (hs : s.size ≤ 1000000000) (h : wordT s = true) : FoldsTo s false false := by
  have ho := word_odd h
  refine ⟨hs, ascii_of_letT (letT_word h), ?_, ?_⟩
  · cases hq : Lib.equalFold [84, 82, 85, 69] s.data.toList with
    | false => rfl
    | true =>
      have e : lowT s = ⟨#[116, 114, 117, 101]⟩ := by show (⟨(s.data.toList.map Lib.lowerB).toArray⟩ : ByteArray) = _; rw [folds_low hq]; decide
      rw [e] at ho; exact absurd ho (by decide +kernel)
  · cases hq : Lib.equalFold [70, 65, 76, 83, 69] s.data.toList with
    | false => rfl
    | true =>
      have e : lowT s = ⟨#[102, 97, 108, 115, 101]⟩ := by show (⟨(s.data.toList.map Lib.lowerB).toArray⟩ : ByteArray) = _; rw [folds_low hq]; decide
      rw [e] at ho; exact absurd ho (by decide +kernel)

theorem folds_num {t : ByteArray} (h : NumText t) : FoldsTo t false false := by
  obtain ⟨xs, rfl, h1, h2, h3, h4⟩ := h
  have hl : (strOfNums xs).data.toList = xs.map fun n => UInt8.ofNat n.toNat := by unfold strOfNums; simp
  have hfirst : ∀ (c : UInt8) (l : List UInt8), (65 ≤ c.toNat ∧ c.toNat ≤ 90) → Lib.equalFold (c :: l) (strOfNums xs).data.toList = false := by
    intro c l hc
    rw [hl]
    cases xs with
    | nil => simp at h1
    | cons z zs =>
      rw [List.map_cons]
      apply Lib.equalFold_no
      unfold Lib.foldEq
      apply decide_eq_false
      have hz := h4 z (by rw [List.head?_cons])
      have hzz : (UInt8.ofNat z.toNat).toNat = z.toNat := by rw [UInt8.toNat_ofNat']; rcases hz with rfl | hz <;> omega
      rw [hzz]
      rcases hz with rfl | hz <;> omega
  refine ⟨?_, ?_, hfirst _ _ (by decide), hfirst _ _ (by decide)⟩
  · show (strOfNums xs).data.size ≤ _
    rw [← Array.length_toList, hl, List.length_map]; omega
  · intro j b hb
    rw [hl, List.getElem?_map] at hb
    obtain ⟨z, hz, rfl⟩ := Option.map_eq_some_iff.1 hb
    have := h3 z (List.mem_of_getElem? hz)
    rw [UInt8.toNat_ofNat']; omega

theorem folds_lit (l : List UInt8) (hl : l.length ≤ 100) (ha : l.all (fun b => decide (b.toNat < 128)) = true) (a1 a2 : Bool) (h1 : Lib.equalFold [84, 82, 85, 69] l = a1) (h2 : Lib.equalFold [70, 65, 76, 83, 69] l = a2) : FoldsTo ⟨l.toArray⟩ a1 a2 := by
  refine ⟨?_, ?_, h1, h2⟩
  · show l.toArray.size ≤ _
    simp; omega
  · intro j b hb
    have := List.all_eq_true.1 ha b (List.mem_of_getElem? hb)
    simpa using this

/-- What Value makes of a single value, so far as ISLOGICAL asks. -/
def ValTo (v : Array Value) (a1 a2 : Bool) (w : World) : Prop := Calls Tryz.prog 62 #[.agg v] w fun e w' => ∃ t, e = .returned (.string t) ∧ FoldsTo t a1 a2 ∧ Ext w w'

set_option maxHeartbeats 1600000 in
theorem value_num (x : Nat) (w : World) (hx : WordOk x) (ht : TabsAt w) : ValTo (fnumC x) false false w := by
  unfold ValTo
  have HF := Lib.hid (fun w' h => sFormatFloat_ok x w' h hx)
  have HT := Lib.hid ht
  clear hx ht
  go_enter Tryz.func62, Tryz.ntmps62
  go_wp2_with fail
  refine (HF.out _ (HT.out.ext (by repeat (first | with_reducible exact Below.refl _ _ | with_reducible assumption | ((with_reducible refine Below.setCell ?_ ?_ _); rotate_left; (simp; try omega)) | (with_reducible refine Ext.tr ?_ (by with_reducible assumption)) | (with_reducible refine Ext.al ?_ _) | (with_reducible refine below_drewN ?_ _) | (with_reducible refine Below.drew ?_))))).mono ?_
  rintro e w1 ⟨t, rfl, h1, hb1⟩
  have HN := Lib.hid (folds_num h1); clear h1
  go_wp2
  go_ret
  exact ⟨t, rfl, HN.out, (by repeat (first | with_reducible exact Below.refl _ _ | with_reducible assumption | ((with_reducible refine Below.setCell ?_ ?_ _); rotate_left; (simp; try omega)) | (with_reducible refine Ext.tr ?_ (by with_reducible assumption)) | (with_reducible refine Ext.al ?_ _) | (with_reducible refine below_drewN ?_ _) | (with_reducible refine Below.drew ?_)))⟩

set_option maxHeartbeats 1600000 in
theorem value_text (s : ByteArray) (a1 a2 : Bool) (w : World) (h : FoldsTo s a1 a2) : ValTo (fstrC s) a1 a2 w := by
  unfold ValTo
  have H := Lib.hid h; clear h
  go_enter Tryz.func62, Tryz.ntmps62
  go_wp2
  go_ret
  exact ⟨s, rfl, H.out, (by repeat (first | with_reducible exact Below.refl _ _ | with_reducible assumption | ((with_reducible refine Below.setCell ?_ ?_ _); rotate_left; (simp; try omega)) | (with_reducible refine Ext.tr ?_ (by with_reducible assumption)) | (with_reducible refine Ext.al ?_ _) | (with_reducible refine below_drewN ?_ _) | (with_reducible refine Below.drew ?_)))⟩

set_option maxHeartbeats 1600000 in
theorem value_err (s m : ByteArray) (a1 a2 : Bool) (w : World) (h : FoldsTo m a1 a2) : ValTo (ferrC s m) a1 a2 w := by
  unfold ValTo
  have H := Lib.hid h; clear h
  go_enter Tryz.func62, Tryz.ntmps62
  go_wp2
  go_ret
  exact ⟨m, rfl, H.out, (by repeat (first | with_reducible exact Below.refl _ _ | with_reducible assumption | ((with_reducible refine Below.setCell ?_ ?_ _); rotate_left; (simp; try omega)) | (with_reducible refine Ext.tr ?_ (by with_reducible assumption)) | (with_reducible refine Ext.al ?_ _) | (with_reducible refine below_drewN ?_ _) | (with_reducible refine Below.drew ?_)))⟩

set_option maxHeartbeats 1600000 in
theorem value_empty (w : World) : ValTo femptyC false false w := by
  unfold ValTo
  have H := Lib.hid (folds_lit [] (by decide) (by decide) false false (by decide) (by decide))
  go_enter Tryz.func62, Tryz.ntmps62
  go_wp2
  go_ret
  exact ⟨⟨#[]⟩, rfl, H.out, (by repeat (first | with_reducible exact Below.refl _ _ | with_reducible assumption | ((with_reducible refine Below.setCell ?_ ?_ _); rotate_left; (simp; try omega)) | (with_reducible refine Ext.tr ?_ (by with_reducible assumption)) | (with_reducible refine Ext.al ?_ _) | (with_reducible refine below_drewN ?_ _) | (with_reducible refine Below.drew ?_)))⟩

set_option maxHeartbeats 1600000 in
theorem value_yes (w : World) : ValTo (fboolC 4607182418800017408) true false w := by
  unfold ValTo
  have H := Lib.hid (folds_lit [84, 82, 85, 69] (by decide) (by decide) true false (by decide) (by decide))
  go_enter Tryz.func62, Tryz.ntmps62
  go_wp2
  go_ret
  exact ⟨⟨#[84, 82, 85, 69]⟩, rfl, H.out, (by repeat (first | with_reducible exact Below.refl _ _ | with_reducible assumption | ((with_reducible refine Below.setCell ?_ ?_ _); rotate_left; (simp; try omega)) | (with_reducible refine Ext.tr ?_ (by with_reducible assumption)) | (with_reducible refine Ext.al ?_ _) | (with_reducible refine below_drewN ?_ _) | (with_reducible refine Below.drew ?_)))⟩

set_option maxHeartbeats 1600000 in
theorem value_not (w : World) : ValTo (fboolC 0) false true w := by
  unfold ValTo
  have H := Lib.hid (folds_lit [70, 65, 76, 83, 69] (by decide) (by decide) false true (by decide) (by decide))
  go_enter Tryz.func62, Tryz.ntmps62
  go_wp2
  go_ret
  exact ⟨⟨#[70, 65, 76, 83, 69]⟩, rfl, H.out, (by repeat (first | with_reducible exact Below.refl _ _ | with_reducible assumption | ((with_reducible refine Below.setCell ?_ ?_ _); rotate_left; (simp; try omega)) | (with_reducible refine Ext.tr ?_ (by with_reducible assumption)) | (with_reducible refine Ext.al ?_ _) | (with_reducible refine below_drewN ?_ _) | (with_reducible refine Below.drew ?_)))⟩

theorem fold_yes {t : ByteArray} {a1 a2 : Bool} (ht : FoldsTo t a1 a2) (w : World) : Calls Tryz.prog 63 #[.string ⟨#[84, 82, 85, 69]⟩, .string t] w fun e w' => e = .returned (.bool a1) ∧ w' = w := by
  have h := Tryz.strings_EqualFold ⟨#[84, 82, 85, 69]⟩ t w (by decide) (by intro j b hb; have := List.mem_of_getElem? hb; simp at this; rcases this with rfl | rfl | rfl | rfl <;> decide) ht.ascii
  have e : Lib.equalFold (⟨#[84, 82, 85, 69]⟩ : ByteArray).data.toList t.data.toList = a1 := ht.yes
  rw [e] at h
  exact h

theorem fold_no {t : ByteArray} {a1 a2 : Bool} (ht : FoldsTo t a1 a2) (w : World) : Calls Tryz.prog 63 #[.string ⟨#[70, 65, 76, 83, 69]⟩, .string t] w fun e w' => e = .returned (.bool a2) ∧ w' = w := by
  have h := Tryz.strings_EqualFold ⟨#[70, 65, 76, 83, 69]⟩ t w (by decide) (by intro j b hb; have := List.mem_of_getElem? hb; simp at this; rcases this with rfl | rfl | rfl | rfl | rfl <;> decide) ht.ascii
  have e : Lib.equalFold (⟨#[70, 65, 76, 83, 69]⟩ : ByteArray).data.toList t.data.toList = a2 := ht.no
  rw [e] at h
  exact h
end Go.Proofs.YtlbhebmjdaaglaaGreatDoor

namespace Go.Proofs.YtlbhebmjdaaglaaGreatDoor
open Go Go.RowKit
set_option maxRecDepth 100000

set_option maxHeartbeats 3200000 in
theorem fn_islogical (v : Array Value) (a1 a2 : Bool) (fb b B : Nat) (w : World) (hv : ∀ w', Ext w w' → ValTo v a1 a2 w') (h : ArgsAt w b B [v]) :
    Calls Tryz.prog 46 #[ptr fb, ptr b] w (Gives w (fbool (oneW (a1 || a2)))) := by
  have HA := Lib.hid h; clear h
  have HV := Lib.hid (fun w' hw => show Calls Tryz.prog 62 #[.agg v] w' fun e w2 => ∃ t, e = .returned (.string t) ∧ FoldsTo t a1 a2 ∧ Ext w' w2 from hv w' hw); clear hv
  have HE1 := Lib.hid (fun t w' (ht : FoldsTo t a1 a2) => fold_yes ht w')
  have HE2 := Lib.hid (fun t w' (ht : FoldsTo t a1 a2) => fold_no ht w')
  cases a1
  · cases a2
    · go_enter Tryz.func46, Tryz.ntmps46
      (go_wp2_with fail; refine (len_ok _ b B _ (HA.out.ext (by repeat (first | with_reducible exact Below.refl _ _ | with_reducible assumption | ((with_reducible refine Below.setCell ?_ ?_ _); rotate_left; (simp; try omega)) | (with_reducible refine Ext.tr ?_ (by with_reducible assumption)) | (with_reducible refine Ext.al ?_ _) | (with_reducible refine below_drewN ?_ _) | (with_reducible refine Below.drew ?_))))).mono ?_; rintro e w1 ⟨rfl, rfl⟩)
      (go_wp2_with fail; refine (front_ok _ b B _ [] (HA.out.ext (by repeat (first | with_reducible exact Below.refl _ _ | with_reducible assumption | ((with_reducible refine Below.setCell ?_ ?_ _); rotate_left; (simp; try omega)) | (with_reducible refine Ext.tr ?_ (by with_reducible assumption)) | (with_reducible refine Ext.al ?_ _) | (with_reducible refine below_drewN ?_ _) | (with_reducible refine Below.drew ?_))))).mono ?_; rintro e w1 ⟨⟨n1, rfl, he⟩, rfl⟩)
      unfold ElemAt at he
      go_wp2_with fail
      refine (HV.out _ (by repeat (first | with_reducible exact Below.refl _ _ | with_reducible assumption | ((with_reducible refine Below.setCell ?_ ?_ _); rotate_left; (simp; try omega)) | (with_reducible refine Ext.tr ?_ (by with_reducible assumption)) | (with_reducible refine Ext.al ?_ _) | (with_reducible refine below_drewN ?_ _) | (with_reducible refine Below.drew ?_)))).mono ?_
      rintro e w2 ⟨t, rfl, ht, hb2⟩
      have HF := Lib.hid ht; clear ht he
      (obtain ⟨hc2, hf2, hz2⟩ := ext_facts hb2; (try simp at hz2); (have hq2_0 : w.heap.size < w2.heap.size := by omega); (have hl2_0 : w.heap.size ≤ w2.heap.size := by omega); (have hr2_0 := fun o => hc2 (w.heap.size) o (by first | omega | (simp; done) | (simp; omega))); (have hs2_0 := fun o => hf2 (w.heap.size) o (by first | omega | (simp; done) | (simp; omega))); (try simp (disch := first | omega | (simp; omega)) only [World.cell?_alloc_past, World.cell?_drew] at hr2_0); (try simp (disch := first | omega | (simp; omega)) only [World.frozen?_alloc_past, World.frozen?_drew] at hs2_0); clear hc2 hf2)
      go_wp2_with fail
      refine (HE1.out t _ HF.out).mono ?_
      rintro e w3 ⟨rfl, rfl⟩
      go_wp2_with fail
      refine (HE2.out t _ HF.out).mono ?_
      rintro e w4 ⟨rfl, rfl⟩
      go_wp2_with fail
      (go_wp2_with fail; refine (newBool_false _).mono ?_; rintro e w5 ⟨rfl, hb5⟩; obtain ⟨hc5, hf5, hz5⟩ := ext_facts hb5; (try simp at hz5); (have hq5_0 : w.heap.size < w5.heap.size := by omega); (have hl5_0 : w.heap.size ≤ w5.heap.size := by omega); (have hr5_0 := fun o => hc5 (w.heap.size) o (by first | omega | (simp; done) | (simp; omega))); (have hs5_0 := fun o => hf5 (w.heap.size) o (by first | omega | (simp; done) | (simp; omega))); (try simp (disch := first | omega | (simp; omega)) only [World.cell?_alloc_past, World.cell?_drew] at hr5_0); (try simp (disch := first | omega | (simp; omega)) only [World.frozen?_alloc_past, World.frozen?_drew] at hs5_0); clear hc5 hf5)
      go_wp2
      exact bodyPost_ret (v := fbool 0) (by simp [results, Tryz.results46, go_sem, *]) rfl ⟨rfl, (by repeat (first | with_reducible exact Below.refl _ _ | with_reducible assumption | ((with_reducible refine Below.setCell ?_ ?_ _); rotate_left; (simp; try omega)) | (with_reducible refine Ext.tr ?_ (by with_reducible assumption)) | (with_reducible refine Ext.al ?_ _) | (with_reducible refine below_drewN ?_ _) | (with_reducible refine Below.drew ?_)))⟩
    · go_enter Tryz.func46, Tryz.ntmps46
      (go_wp2_with fail; refine (len_ok _ b B _ (HA.out.ext (by repeat (first | with_reducible exact Below.refl _ _ | with_reducible assumption | ((with_reducible refine Below.setCell ?_ ?_ _); rotate_left; (simp; try omega)) | (with_reducible refine Ext.tr ?_ (by with_reducible assumption)) | (with_reducible refine Ext.al ?_ _) | (with_reducible refine below_drewN ?_ _) | (with_reducible refine Below.drew ?_))))).mono ?_; rintro e w1 ⟨rfl, rfl⟩)
      (go_wp2_with fail; refine (front_ok _ b B _ [] (HA.out.ext (by repeat (first | with_reducible exact Below.refl _ _ | with_reducible assumption | ((with_reducible refine Below.setCell ?_ ?_ _); rotate_left; (simp; try omega)) | (with_reducible refine Ext.tr ?_ (by with_reducible assumption)) | (with_reducible refine Ext.al ?_ _) | (with_reducible refine below_drewN ?_ _) | (with_reducible refine Below.drew ?_))))).mono ?_; rintro e w1 ⟨⟨n1, rfl, he⟩, rfl⟩)
      unfold ElemAt at he
      go_wp2_with fail
      refine (HV.out _ (by repeat (first | with_reducible exact Below.refl _ _ | with_reducible assumption | ((with_reducible refine Below.setCell ?_ ?_ _); rotate_left; (simp; try omega)) | (with_reducible refine Ext.tr ?_ (by with_reducible assumption)) | (with_reducible refine Ext.al ?_ _) | (with_reducible refine below_drewN ?_ _) | (with_reducible refine Below.drew ?_)))).mono ?_
      rintro e w2 ⟨t, rfl, ht, hb2⟩
      have HF := Lib.hid ht; clear ht he
      (obtain ⟨hc2, hf2, hz2⟩ := ext_facts hb2; (try simp at hz2); (have hq2_0 : w.heap.size < w2.heap.size := by omega); (have hl2_0 : w.heap.size ≤ w2.heap.size := by omega); (have hr2_0 := fun o => hc2 (w.heap.size) o (by first | omega | (simp; done) | (simp; omega))); (have hs2_0 := fun o => hf2 (w.heap.size) o (by first | omega | (simp; done) | (simp; omega))); (try simp (disch := first | omega | (simp; omega)) only [World.cell?_alloc_past, World.cell?_drew] at hr2_0); (try simp (disch := first | omega | (simp; omega)) only [World.frozen?_alloc_past, World.frozen?_drew] at hs2_0); clear hc2 hf2)
      go_wp2_with fail
      refine (HE1.out t _ HF.out).mono ?_
      rintro e w3 ⟨rfl, rfl⟩
      go_wp2_with fail
      refine (HE2.out t _ HF.out).mono ?_
      rintro e w4 ⟨rfl, rfl⟩
      go_wp2_with fail
      (go_wp2_with fail; refine (newBool_true _).mono ?_; rintro e w5 ⟨rfl, hb5⟩; obtain ⟨hc5, hf5, hz5⟩ := ext_facts hb5; (try simp at hz5); (have hq5_0 : w.heap.size < w5.heap.size := by omega); (have hl5_0 : w.heap.size ≤ w5.heap.size := by omega); (have hr5_0 := fun o => hc5 (w.heap.size) o (by first | omega | (simp; done) | (simp; omega))); (have hs5_0 := fun o => hf5 (w.heap.size) o (by first | omega | (simp; done) | (simp; omega))); (try simp (disch := first | omega | (simp; omega)) only [World.cell?_alloc_past, World.cell?_drew] at hr5_0); (try simp (disch := first | omega | (simp; omega)) only [World.frozen?_alloc_past, World.frozen?_drew] at hs5_0); clear hc5 hf5)
      go_wp2
      exact bodyPost_ret (v := fbool 4607182418800017408) (by simp [results, Tryz.results46, go_sem, *]) rfl ⟨rfl, (by repeat (first | with_reducible exact Below.refl _ _ | with_reducible assumption | ((with_reducible refine Below.setCell ?_ ?_ _); rotate_left; (simp; try omega)) | (with_reducible refine Ext.tr ?_ (by with_reducible assumption)) | (with_reducible refine Ext.al ?_ _) | (with_reducible refine below_drewN ?_ _) | (with_reducible refine Below.drew ?_)))⟩
  · go_enter Tryz.func46, Tryz.ntmps46
    (go_wp2_with fail; refine (len_ok _ b B _ (HA.out.ext (by repeat (first | with_reducible exact Below.refl _ _ | with_reducible assumption | ((with_reducible refine Below.setCell ?_ ?_ _); rotate_left; (simp; try omega)) | (with_reducible refine Ext.tr ?_ (by with_reducible assumption)) | (with_reducible refine Ext.al ?_ _) | (with_reducible refine below_drewN ?_ _) | (with_reducible refine Below.drew ?_))))).mono ?_; rintro e w1 ⟨rfl, rfl⟩)
    (go_wp2_with fail; refine (front_ok _ b B _ [] (HA.out.ext (by repeat (first | with_reducible exact Below.refl _ _ | with_reducible assumption | ((with_reducible refine Below.setCell ?_ ?_ _); rotate_left; (simp; try omega)) | (with_reducible refine Ext.tr ?_ (by with_reducible assumption)) | (with_reducible refine Ext.al ?_ _) | (with_reducible refine below_drewN ?_ _) | (with_reducible refine Below.drew ?_))))).mono ?_; rintro e w1 ⟨⟨n1, rfl, he⟩, rfl⟩)
    unfold ElemAt at he
    go_wp2_with fail
    refine (HV.out _ (by repeat (first | with_reducible exact Below.refl _ _ | with_reducible assumption | ((with_reducible refine Below.setCell ?_ ?_ _); rotate_left; (simp; try omega)) | (with_reducible refine Ext.tr ?_ (by with_reducible assumption)) | (with_reducible refine Ext.al ?_ _) | (with_reducible refine below_drewN ?_ _) | (with_reducible refine Below.drew ?_)))).mono ?_
    rintro e w2 ⟨t, rfl, ht, hb2⟩
    have HF := Lib.hid ht; clear ht he
    (obtain ⟨hc2, hf2, hz2⟩ := ext_facts hb2; (try simp at hz2); (have hq2_0 : w.heap.size < w2.heap.size := by omega); (have hl2_0 : w.heap.size ≤ w2.heap.size := by omega); (have hr2_0 := fun o => hc2 (w.heap.size) o (by first | omega | (simp; done) | (simp; omega))); (have hs2_0 := fun o => hf2 (w.heap.size) o (by first | omega | (simp; done) | (simp; omega))); (try simp (disch := first | omega | (simp; omega)) only [World.cell?_alloc_past, World.cell?_drew] at hr2_0); (try simp (disch := first | omega | (simp; omega)) only [World.frozen?_alloc_past, World.frozen?_drew] at hs2_0); clear hc2 hf2)
    go_wp2_with fail
    refine (HE1.out t _ HF.out).mono ?_
    rintro e w3 ⟨rfl, rfl⟩
    go_wp2_with fail
    (go_wp2_with fail; refine (newBool_true _).mono ?_; rintro e w5 ⟨rfl, hb5⟩; obtain ⟨hc5, hf5, hz5⟩ := ext_facts hb5; (try simp at hz5); (have hq5_0 : w.heap.size < w5.heap.size := by omega); (have hl5_0 : w.heap.size ≤ w5.heap.size := by omega); (have hr5_0 := fun o => hc5 (w.heap.size) o (by first | omega | (simp; done) | (simp; omega))); (have hs5_0 := fun o => hf5 (w.heap.size) o (by first | omega | (simp; done) | (simp; omega))); (try simp (disch := first | omega | (simp; omega)) only [World.cell?_alloc_past, World.cell?_drew] at hr5_0); (try simp (disch := first | omega | (simp; omega)) only [World.frozen?_alloc_past, World.frozen?_drew] at hs5_0); clear hc5 hf5)
    go_wp2
    exact bodyPost_ret (v := fbool 4607182418800017408) (by simp [results, Tryz.results46, go_sem, *]) rfl ⟨rfl, (by repeat (first | with_reducible exact Below.refl _ _ | with_reducible assumption | ((with_reducible refine Below.setCell ?_ ?_ _); rotate_left; (simp; try omega)) | (with_reducible refine Ext.tr ?_ (by with_reducible assumption)) | (with_reducible refine Ext.al ?_ _) | (with_reducible refine below_drewN ?_ _) | (with_reducible refine Below.drew ?_)))⟩

set_option maxHeartbeats 3200000 in
theorem fn_isblank (x : Nat) (s m : ByteArray) (bb : Bool) (k : Int) (r : Bool) (hk : (k = 6 ∧ r = true) ∨ ((k = 1 ∨ k = 2 ∨ k = 5) ∧ r = false)) (fb b B : Nat) (w : World) (h : ArgsAt w b B [faC x s bb m k]) :
    Calls Tryz.prog 47 #[ptr fb, ptr b] w (Gives w (fbool (oneW r))) := by
  have HA := Lib.hid h; clear h
  rcases hk with ⟨rfl, rfl⟩ | ⟨rfl | rfl | rfl, rfl⟩
  · go_enter Tryz.func47, Tryz.ntmps47
    (go_wp2_with fail; refine (len_ok _ b B _ (HA.out.ext (by repeat (first | with_reducible exact Below.refl _ _ | with_reducible assumption | ((with_reducible refine Below.setCell ?_ ?_ _); rotate_left; (simp; try omega)) | (with_reducible refine Ext.tr ?_ (by with_reducible assumption)) | (with_reducible refine Ext.al ?_ _) | (with_reducible refine below_drewN ?_ _) | (with_reducible refine Below.drew ?_))))).mono ?_; rintro e w1 ⟨rfl, rfl⟩)
    (go_wp2_with fail; refine (front_ok _ b B _ [] (HA.out.ext (by repeat (first | with_reducible exact Below.refl _ _ | with_reducible assumption | ((with_reducible refine Below.setCell ?_ ?_ _); rotate_left; (simp; try omega)) | (with_reducible refine Ext.tr ?_ (by with_reducible assumption)) | (with_reducible refine Ext.al ?_ _) | (with_reducible refine below_drewN ?_ _) | (with_reducible refine Below.drew ?_))))).mono ?_; rintro e w1 ⟨⟨n1, rfl, he⟩, rfl⟩)
    unfold ElemAt at he
    (go_wp2_with fail; refine (newBool_true _).mono ?_; rintro e w3 ⟨rfl, hb3⟩; obtain ⟨hc3, hf3, hz3⟩ := ext_facts hb3; (try simp at hz3); (have hq3_0 : w.heap.size < w3.heap.size := by omega); (have hl3_0 : w.heap.size ≤ w3.heap.size := by omega); (have hr3_0 := fun o => hc3 (w.heap.size) o (by first | omega | (simp; done) | (simp; omega))); (have hs3_0 := fun o => hf3 (w.heap.size) o (by first | omega | (simp; done) | (simp; omega))); (try simp (disch := first | omega | (simp; omega)) only [World.cell?_alloc_past, World.cell?_drew] at hr3_0); (try simp (disch := first | omega | (simp; omega)) only [World.frozen?_alloc_past, World.frozen?_drew] at hs3_0); clear hc3 hf3)
    go_wp2
    exact bodyPost_ret (v := fbool 4607182418800017408) (by simp [results, Tryz.results47, go_sem, *]) rfl ⟨rfl, (by repeat (first | with_reducible exact Below.refl _ _ | with_reducible assumption | ((with_reducible refine Below.setCell ?_ ?_ _); rotate_left; (simp; try omega)) | (with_reducible refine Ext.tr ?_ (by with_reducible assumption)) | (with_reducible refine Ext.al ?_ _) | (with_reducible refine below_drewN ?_ _) | (with_reducible refine Below.drew ?_)))⟩
  all_goals
    go_enter Tryz.func47, Tryz.ntmps47
    (go_wp2_with fail; refine (len_ok _ b B _ (HA.out.ext (by repeat (first | with_reducible exact Below.refl _ _ | with_reducible assumption | ((with_reducible refine Below.setCell ?_ ?_ _); rotate_left; (simp; try omega)) | (with_reducible refine Ext.tr ?_ (by with_reducible assumption)) | (with_reducible refine Ext.al ?_ _) | (with_reducible refine below_drewN ?_ _) | (with_reducible refine Below.drew ?_))))).mono ?_; rintro e w1 ⟨rfl, rfl⟩)
    (go_wp2_with fail; refine (front_ok _ b B _ [] (HA.out.ext (by repeat (first | with_reducible exact Below.refl _ _ | with_reducible assumption | ((with_reducible refine Below.setCell ?_ ?_ _); rotate_left; (simp; try omega)) | (with_reducible refine Ext.tr ?_ (by with_reducible assumption)) | (with_reducible refine Ext.al ?_ _) | (with_reducible refine below_drewN ?_ _) | (with_reducible refine Below.drew ?_))))).mono ?_; rintro e w1 ⟨⟨n1, rfl, he⟩, rfl⟩)
    unfold ElemAt at he
    (go_wp2_with fail; refine (newBool_false _).mono ?_; rintro e w3 ⟨rfl, hb3⟩; obtain ⟨hc3, hf3, hz3⟩ := ext_facts hb3; (try simp at hz3); (have hq3_0 : w.heap.size < w3.heap.size := by omega); (have hl3_0 : w.heap.size ≤ w3.heap.size := by omega); (have hr3_0 := fun o => hc3 (w.heap.size) o (by first | omega | (simp; done) | (simp; omega))); (have hs3_0 := fun o => hf3 (w.heap.size) o (by first | omega | (simp; done) | (simp; omega))); (try simp (disch := first | omega | (simp; omega)) only [World.cell?_alloc_past, World.cell?_drew] at hr3_0); (try simp (disch := first | omega | (simp; omega)) only [World.frozen?_alloc_past, World.frozen?_drew] at hs3_0); clear hc3 hf3)
    go_wp2
    exact bodyPost_ret (v := fbool 0) (by simp [results, Tryz.results47, go_sem, *]) rfl ⟨rfl, (by repeat (first | with_reducible exact Below.refl _ _ | with_reducible assumption | ((with_reducible refine Below.setCell ?_ ?_ _); rotate_left; (simp; try omega)) | (with_reducible refine Ext.tr ?_ (by with_reducible assumption)) | (with_reducible refine Ext.al ?_ _) | (with_reducible refine below_drewN ?_ _) | (with_reducible refine Below.drew ?_)))⟩

set_option maxHeartbeats 1600000 in
theorem implicit_ok (x : Nat) (s m : ByteArray) (bb : Bool) (k : Int) (hk : k ≠ 4) (fb : Nat) (w : World) : Calls Tryz.prog 56 #[ptr fb, .agg (faC x s bb m k)] w (Gives w (.agg (faC x s bb m k))) := by
  have hb : (k != 4) = true := bne_iff_ne.2 hk
  go_enter Tryz.func56, Tryz.ntmps56
  go_wp2
  exact bodyPost_ret (v := .agg (faC x s bb m k)) (by simp [results, Tryz.results56, go_sem, *]) rfl ⟨rfl, (by repeat (first | with_reducible exact Below.refl _ _ | with_reducible assumption | ((with_reducible refine Below.setCell ?_ ?_ _); rotate_left; (simp; try omega)) | (with_reducible refine Ext.tr ?_ (by with_reducible assumption)) | (with_reducible refine Ext.al ?_ _) | (with_reducible refine below_drewN ?_ _) | (with_reducible refine Below.drew ?_)))⟩

set_option maxHeartbeats 3200000 in
theorem fn_isnumber (x : Nat) (s m : ByteArray) (bb : Bool) (k : Int) (r : Bool) (hk : (k = 1 ∧ r = !bb) ∨ ((k = 2 ∨ k = 5 ∨ k = 6) ∧ r = false)) (fb b B : Nat) (w : World) (h : ArgsAt w b B [faC x s bb m k]) :
    Calls Tryz.prog 43 #[ptr fb, ptr b] w (Gives w (fbool (oneW r))) := by
  have HA := Lib.hid h; clear h
  have HI := Lib.hid (fun w' => implicit_ok x s m bb k (by omega) fb w')
  rcases hk with ⟨rfl, rfl⟩ | ⟨rfl | rfl | rfl, rfl⟩
  · cases bb
    · go_enter Tryz.func43, Tryz.ntmps43
      (go_wp2_with fail; refine (len_ok _ b B _ (HA.out.ext (by repeat (first | with_reducible exact Below.refl _ _ | with_reducible assumption | ((with_reducible refine Below.setCell ?_ ?_ _); rotate_left; (simp; try omega)) | (with_reducible refine Ext.tr ?_ (by with_reducible assumption)) | (with_reducible refine Ext.al ?_ _) | (with_reducible refine below_drewN ?_ _) | (with_reducible refine Below.drew ?_))))).mono ?_; rintro e w1 ⟨rfl, rfl⟩)
      (go_wp2_with fail; refine (front_ok _ b B _ [] (HA.out.ext (by repeat (first | with_reducible exact Below.refl _ _ | with_reducible assumption | ((with_reducible refine Below.setCell ?_ ?_ _); rotate_left; (simp; try omega)) | (with_reducible refine Ext.tr ?_ (by with_reducible assumption)) | (with_reducible refine Ext.al ?_ _) | (with_reducible refine below_drewN ?_ _) | (with_reducible refine Below.drew ?_))))).mono ?_; rintro e w1 ⟨⟨n1, rfl, he⟩, rfl⟩)
      unfold ElemAt at he
      (go_wp2_with fail; refine (HI.out _).mono ?_; rintro e w2 ⟨rfl, hb2⟩; obtain ⟨hc2, hf2, hz2⟩ := ext_facts hb2; (try simp at hz2); (have hq2_0 : w.heap.size < w2.heap.size := by omega); (have hl2_0 : w.heap.size ≤ w2.heap.size := by omega); (have hr2_0 := fun o => hc2 (w.heap.size) o (by first | omega | (simp; done) | (simp; omega))); (have hs2_0 := fun o => hf2 (w.heap.size) o (by first | omega | (simp; done) | (simp; omega))); (try simp (disch := first | omega | (simp; omega)) only [World.cell?_alloc_past, World.cell?_drew] at hr2_0); (try simp (disch := first | omega | (simp; omega)) only [World.frozen?_alloc_past, World.frozen?_drew] at hs2_0); (have hq2_1 : w.heap.size + 1 < w2.heap.size := by omega); (have hl2_1 : w.heap.size + 1 ≤ w2.heap.size := by omega); (have hr2_1 := fun o => hc2 (w.heap.size + 1) o (by first | omega | (simp; done) | (simp; omega))); (have hs2_1 := fun o => hf2 (w.heap.size + 1) o (by first | omega | (simp; done) | (simp; omega))); (try simp (disch := first | omega | (simp; omega)) only [World.cell?_alloc_past, World.cell?_drew] at hr2_1); (try simp (disch := first | omega | (simp; omega)) only [World.frozen?_alloc_past, World.frozen?_drew] at hs2_1); clear hc2 hf2)
      clear he
      (go_wp2_with fail; refine (newBool_true _).mono ?_; rintro e w3 ⟨rfl, hb3⟩; obtain ⟨hc3, hf3, hz3⟩ := ext_facts hb3; (try simp at hz3); (have hq3_0 : w.heap.size < w3.heap.size := by omega); (have hl3_0 : w.heap.size ≤ w3.heap.size := by omega); (have hr3_0 := fun o => hc3 (w.heap.size) o (by first | omega | (simp; done) | (simp; omega))); (have hs3_0 := fun o => hf3 (w.heap.size) o (by first | omega | (simp; done) | (simp; omega))); (try simp (disch := first | omega | (simp; omega)) only [World.cell?_alloc_past, World.cell?_drew] at hr3_0); (try simp (disch := first | omega | (simp; omega)) only [World.frozen?_alloc_past, World.frozen?_drew] at hs3_0); clear hc3 hf3)
      go_wp2
      exact bodyPost_ret (v := fbool 4607182418800017408) (by simp [results, Tryz.results43, go_sem, *]) rfl ⟨rfl, (by repeat (first | with_reducible exact Below.refl _ _ | with_reducible assumption | ((with_reducible refine Below.setCell ?_ ?_ _); rotate_left; (simp; try omega)) | (with_reducible refine Ext.tr ?_ (by with_reducible assumption)) | (with_reducible refine Ext.al ?_ _) | (with_reducible refine below_drewN ?_ _) | (with_reducible refine Below.drew ?_)))⟩
    · go_enter Tryz.func43, Tryz.ntmps43
      (go_wp2_with fail; refine (len_ok _ b B _ (HA.out.ext (by repeat (first | with_reducible exact Below.refl _ _ | with_reducible assumption | ((with_reducible refine Below.setCell ?_ ?_ _); rotate_left; (simp; try omega)) | (with_reducible refine Ext.tr ?_ (by with_reducible assumption)) | (with_reducible refine Ext.al ?_ _) | (with_reducible refine below_drewN ?_ _) | (with_reducible refine Below.drew ?_))))).mono ?_; rintro e w1 ⟨rfl, rfl⟩)
      (go_wp2_with fail; refine (front_ok _ b B _ [] (HA.out.ext (by repeat (first | with_reducible exact Below.refl _ _ | with_reducible assumption | ((with_reducible refine Below.setCell ?_ ?_ _); rotate_left; (simp; try omega)) | (with_reducible refine Ext.tr ?_ (by with_reducible assumption)) | (with_reducible refine Ext.al ?_ _) | (with_reducible refine below_drewN ?_ _) | (with_reducible refine Below.drew ?_))))).mono ?_; rintro e w1 ⟨⟨n1, rfl, he⟩, rfl⟩)
      unfold ElemAt at he
      (go_wp2_with fail; refine (HI.out _).mono ?_; rintro e w2 ⟨rfl, hb2⟩; obtain ⟨hc2, hf2, hz2⟩ := ext_facts hb2; (try simp at hz2); (have hq2_0 : w.heap.size < w2.heap.size := by omega); (have hl2_0 : w.heap.size ≤ w2.heap.size := by omega); (have hr2_0 := fun o => hc2 (w.heap.size) o (by first | omega | (simp; done) | (simp; omega))); (have hs2_0 := fun o => hf2 (w.heap.size) o (by first | omega | (simp; done) | (simp; omega))); (try simp (disch := first | omega | (simp; omega)) only [World.cell?_alloc_past, World.cell?_drew] at hr2_0); (try simp (disch := first | omega | (simp; omega)) only [World.frozen?_alloc_past, World.frozen?_drew] at hs2_0); (have hq2_1 : w.heap.size + 1 < w2.heap.size := by omega); (have hl2_1 : w.heap.size + 1 ≤ w2.heap.size := by omega); (have hr2_1 := fun o => hc2 (w.heap.size + 1) o (by first | omega | (simp; done) | (simp; omega))); (have hs2_1 := fun o => hf2 (w.heap.size + 1) o (by first | omega | (simp; done) | (simp; omega))); (try simp (disch := first | omega | (simp; omega)) only [World.cell?_alloc_past, World.cell?_drew] at hr2_1); (try simp (disch := first | omega | (simp; omega)) only [World.frozen?_alloc_past, World.frozen?_drew] at hs2_1); clear hc2 hf2)
      clear he
      (go_wp2_with fail; refine (newBool_false _).mono ?_; rintro e w3 ⟨rfl, hb3⟩; obtain ⟨hc3, hf3, hz3⟩ := ext_facts hb3; (try simp at hz3); (have hq3_0 : w.heap.size < w3.heap.size := by omega); (have hl3_0 : w.heap.size ≤ w3.heap.size := by omega); (have hr3_0 := fun o => hc3 (w.heap.size) o (by first | omega | (simp; done) | (simp; omega))); (have hs3_0 := fun o => hf3 (w.heap.size) o (by first | omega | (simp; done) | (simp; omega))); (try simp (disch := first | omega | (simp; omega)) only [World.cell?_alloc_past, World.cell?_drew] at hr3_0); (try simp (disch := first | omega | (simp; omega)) only [World.frozen?_alloc_past, World.frozen?_drew] at hs3_0); clear hc3 hf3)
      go_wp2
      exact bodyPost_ret (v := fbool 0) (by simp [results, Tryz.results43, go_sem, *]) rfl ⟨rfl, (by repeat (first | with_reducible exact Below.refl _ _ | with_reducible assumption | ((with_reducible refine Below.setCell ?_ ?_ _); rotate_left; (simp; try omega)) | (with_reducible refine Ext.tr ?_ (by with_reducible assumption)) | (with_reducible refine Ext.al ?_ _) | (with_reducible refine below_drewN ?_ _) | (with_reducible refine Below.drew ?_)))⟩
  all_goals
    go_enter Tryz.func43, Tryz.ntmps43
    (go_wp2_with fail; refine (len_ok _ b B _ (HA.out.ext (by repeat (first | with_reducible exact Below.refl _ _ | with_reducible assumption | ((with_reducible refine Below.setCell ?_ ?_ _); rotate_left; (simp; try omega)) | (with_reducible refine Ext.tr ?_ (by with_reducible assumption)) | (with_reducible refine Ext.al ?_ _) | (with_reducible refine below_drewN ?_ _) | (with_reducible refine Below.drew ?_))))).mono ?_; rintro e w1 ⟨rfl, rfl⟩)
    (go_wp2_with fail; refine (front_ok _ b B _ [] (HA.out.ext (by repeat (first | with_reducible exact Below.refl _ _ | with_reducible assumption | ((with_reducible refine Below.setCell ?_ ?_ _); rotate_left; (simp; try omega)) | (with_reducible refine Ext.tr ?_ (by with_reducible assumption)) | (with_reducible refine Ext.al ?_ _) | (with_reducible refine below_drewN ?_ _) | (with_reducible refine Below.drew ?_))))).mono ?_; rintro e w1 ⟨⟨n1, rfl, he⟩, rfl⟩)
    unfold ElemAt at he
    (go_wp2_with fail; refine (HI.out _).mono ?_; rintro e w2 ⟨rfl, hb2⟩; obtain ⟨hc2, hf2, hz2⟩ := ext_facts hb2; (try simp at hz2); (have hq2_0 : w.heap.size < w2.heap.size := by omega); (have hl2_0 : w.heap.size ≤ w2.heap.size := by omega); (have hr2_0 := fun o => hc2 (w.heap.size) o (by first | omega | (simp; done) | (simp; omega))); (have hs2_0 := fun o => hf2 (w.heap.size) o (by first | omega | (simp; done) | (simp; omega))); (try simp (disch := first | omega | (simp; omega)) only [World.cell?_alloc_past, World.cell?_drew] at hr2_0); (try simp (disch := first | omega | (simp; omega)) only [World.frozen?_alloc_past, World.frozen?_drew] at hs2_0); (have hq2_1 : w.heap.size + 1 < w2.heap.size := by omega); (have hl2_1 : w.heap.size + 1 ≤ w2.heap.size := by omega); (have hr2_1 := fun o => hc2 (w.heap.size + 1) o (by first | omega | (simp; done) | (simp; omega))); (have hs2_1 := fun o => hf2 (w.heap.size + 1) o (by first | omega | (simp; done) | (simp; omega))); (try simp (disch := first | omega | (simp; omega)) only [World.cell?_alloc_past, World.cell?_drew] at hr2_1); (try simp (disch := first | omega | (simp; omega)) only [World.frozen?_alloc_past, World.frozen?_drew] at hs2_1); clear hc2 hf2)
    clear he
    (go_wp2_with fail; refine (newBool_false _).mono ?_; rintro e w3 ⟨rfl, hb3⟩; obtain ⟨hc3, hf3, hz3⟩ := ext_facts hb3; (try simp at hz3); (have hq3_0 : w.heap.size < w3.heap.size := by omega); (have hl3_0 : w.heap.size ≤ w3.heap.size := by omega); (have hr3_0 := fun o => hc3 (w.heap.size) o (by first | omega | (simp; done) | (simp; omega))); (have hs3_0 := fun o => hf3 (w.heap.size) o (by first | omega | (simp; done) | (simp; omega))); (try simp (disch := first | omega | (simp; omega)) only [World.cell?_alloc_past, World.cell?_drew] at hr3_0); (try simp (disch := first | omega | (simp; omega)) only [World.frozen?_alloc_past, World.frozen?_drew] at hs3_0); clear hc3 hf3)
    go_wp2
    exact bodyPost_ret (v := fbool 0) (by simp [results, Tryz.results43, go_sem, *]) rfl ⟨rfl, (by repeat (first | with_reducible exact Below.refl _ _ | with_reducible assumption | ((with_reducible refine Below.setCell ?_ ?_ _); rotate_left; (simp; try omega)) | (with_reducible refine Ext.tr ?_ (by with_reducible assumption)) | (with_reducible refine Ext.al ?_ _) | (with_reducible refine below_drewN ?_ _) | (with_reducible refine Below.drew ?_)))⟩
end Go.Proofs.YtlbhebmjdaaglaaGreatDoor

namespace Go.Proofs.YtlbhebmjdaaglaaGreatDoor
open Go Go.RowKit
set_option maxRecDepth 100000

set_option maxHeartbeats 3200000 in
theorem fn_isna (x : Nat) (s m : ByteArray) (bb : Bool) (k : Int) (r : Bool) (hk : (k = 5 ∧ r = (s.toList == [35, 78, 47, 65])) ∨ ((k = 1 ∨ k = 2 ∨ k = 6) ∧ r = false)) (fb b B : Nat) (w : World) (h : ArgsAt w b B [faC x s bb m k]) :
    Calls Tryz.prog 51 #[ptr fb, ptr b] w (Gives w (fbool (oneW r))) := by
  have HA := Lib.hid h; clear h
  rcases hk with ⟨rfl, rfl⟩ | ⟨rfl | rfl | rfl, rfl⟩
  · cases hq : (s.toList == [35, 78, 47, 65])
    · go_enter Tryz.func51, Tryz.ntmps51
      (go_wp2_with fail; refine (len_ok _ b B _ (HA.out.ext (by repeat (first | with_reducible exact Below.refl _ _ | with_reducible assumption | ((with_reducible refine Below.setCell ?_ ?_ _); rotate_left; (simp; try omega)) | (with_reducible refine Ext.tr ?_ (by with_reducible assumption)) | (with_reducible refine Ext.al ?_ _) | (with_reducible refine below_drewN ?_ _) | (with_reducible refine Below.drew ?_))))).mono ?_; rintro e w1 ⟨rfl, rfl⟩)
      (go_wp2_with fail; refine (front_ok _ b B _ [] (HA.out.ext (by repeat (first | with_reducible exact Below.refl _ _ | with_reducible assumption | ((with_reducible refine Below.setCell ?_ ?_ _); rotate_left; (simp; try omega)) | (with_reducible refine Ext.tr ?_ (by with_reducible assumption)) | (with_reducible refine Ext.al ?_ _) | (with_reducible refine below_drewN ?_ _) | (with_reducible refine Below.drew ?_))))).mono ?_; rintro e w1 ⟨⟨n1, rfl, he⟩, rfl⟩)
      unfold ElemAt at he
      (go_wp2_with fail; refine (newBool_false _).mono ?_; rintro e w3 ⟨rfl, hb3⟩; obtain ⟨hc3, hf3, hz3⟩ := ext_facts hb3; (try simp at hz3); (have hq3_0 : w.heap.size < w3.heap.size := by omega); (have hl3_0 : w.heap.size ≤ w3.heap.size := by omega); (have hr3_0 := fun o => hc3 (w.heap.size) o (by first | omega | (simp; done) | (simp; omega))); (have hs3_0 := fun o => hf3 (w.heap.size) o (by first | omega | (simp; done) | (simp; omega))); (try simp (disch := first | omega | (simp; omega)) only [World.cell?_alloc_past, World.cell?_drew] at hr3_0); (try simp (disch := first | omega | (simp; omega)) only [World.frozen?_alloc_past, World.frozen?_drew] at hs3_0); clear hc3 hf3)
      go_wp2
      exact bodyPost_ret (v := fbool 0) (by simp [results, Tryz.results51, go_sem, *]) rfl ⟨rfl, (by repeat (first | with_reducible exact Below.refl _ _ | with_reducible assumption | ((with_reducible refine Below.setCell ?_ ?_ _); rotate_left; (simp; try omega)) | (with_reducible refine Ext.tr ?_ (by with_reducible assumption)) | (with_reducible refine Ext.al ?_ _) | (with_reducible refine below_drewN ?_ _) | (with_reducible refine Below.drew ?_)))⟩
    · go_enter Tryz.func51, Tryz.ntmps51
      (go_wp2_with fail; refine (len_ok _ b B _ (HA.out.ext (by repeat (first | with_reducible exact Below.refl _ _ | with_reducible assumption | ((with_reducible refine Below.setCell ?_ ?_ _); rotate_left; (simp; try omega)) | (with_reducible refine Ext.tr ?_ (by with_reducible assumption)) | (with_reducible refine Ext.al ?_ _) | (with_reducible refine below_drewN ?_ _) | (with_reducible refine Below.drew ?_))))).mono ?_; rintro e w1 ⟨rfl, rfl⟩)
      (go_wp2_with fail; refine (front_ok _ b B _ [] (HA.out.ext (by repeat (first | with_reducible exact Below.refl _ _ | with_reducible assumption | ((with_reducible refine Below.setCell ?_ ?_ _); rotate_left; (simp; try omega)) | (with_reducible refine Ext.tr ?_ (by with_reducible assumption)) | (with_reducible refine Ext.al ?_ _) | (with_reducible refine below_drewN ?_ _) | (with_reducible refine Below.drew ?_))))).mono ?_; rintro e w1 ⟨⟨n1, rfl, he⟩, rfl⟩)
      unfold ElemAt at he
      (go_wp2_with fail; refine (newBool_true _).mono ?_; rintro e w3 ⟨rfl, hb3⟩; obtain ⟨hc3, hf3, hz3⟩ := ext_facts hb3; (try simp at hz3); (have hq3_0 : w.heap.size < w3.heap.size := by omega); (have hl3_0 : w.heap.size ≤ w3.heap.size := by omega); (have hr3_0 := fun o => hc3 (w.heap.size) o (by first | omega | (simp; done) | (simp; omega))); (have hs3_0 := fun o => hf3 (w.heap.size) o (by first | omega | (simp; done) | (simp; omega))); (try simp (disch := first | omega | (simp; omega)) only [World.cell?_alloc_past, World.cell?_drew] at hr3_0); (try simp (disch := first | omega | (simp; omega)) only [World.frozen?_alloc_past, World.frozen?_drew] at hs3_0); clear hc3 hf3)
      go_wp2
      exact bodyPost_ret (v := fbool 4607182418800017408) (by simp [results, Tryz.results51, go_sem, *]) rfl ⟨rfl, (by repeat (first | with_reducible exact Below.refl _ _ | with_reducible assumption | ((with_reducible refine Below.setCell ?_ ?_ _); rotate_left; (simp; try omega)) | (with_reducible refine Ext.tr ?_ (by with_reducible assumption)) | (with_reducible refine Ext.al ?_ _) | (with_reducible refine below_drewN ?_ _) | (with_reducible refine Below.drew ?_)))⟩
  all_goals
    go_enter Tryz.func51, Tryz.ntmps51
    (go_wp2_with fail; refine (len_ok _ b B _ (HA.out.ext (by repeat (first | with_reducible exact Below.refl _ _ | with_reducible assumption | ((with_reducible refine Below.setCell ?_ ?_ _); rotate_left; (simp; try omega)) | (with_reducible refine Ext.tr ?_ (by with_reducible assumption)) | (with_reducible refine Ext.al ?_ _) | (with_reducible refine below_drewN ?_ _) | (with_reducible refine Below.drew ?_))))).mono ?_; rintro e w1 ⟨rfl, rfl⟩)
    (go_wp2_with fail; refine (front_ok _ b B _ [] (HA.out.ext (by repeat (first | with_reducible exact Below.refl _ _ | with_reducible assumption | ((with_reducible refine Below.setCell ?_ ?_ _); rotate_left; (simp; try omega)) | (with_reducible refine Ext.tr ?_ (by with_reducible assumption)) | (with_reducible refine Ext.al ?_ _) | (with_reducible refine below_drewN ?_ _) | (with_reducible refine Below.drew ?_))))).mono ?_; rintro e w1 ⟨⟨n1, rfl, he⟩, rfl⟩)
    unfold ElemAt at he
    (go_wp2_with fail; refine (newBool_false _).mono ?_; rintro e w3 ⟨rfl, hb3⟩; obtain ⟨hc3, hf3, hz3⟩ := ext_facts hb3; (try simp at hz3); (have hq3_0 : w.heap.size < w3.heap.size := by omega); (have hl3_0 : w.heap.size ≤ w3.heap.size := by omega); (have hr3_0 := fun o => hc3 (w.heap.size) o (by first | omega | (simp; done) | (simp; omega))); (have hs3_0 := fun o => hf3 (w.heap.size) o (by first | omega | (simp; done) | (simp; omega))); (try simp (disch := first | omega | (simp; omega)) only [World.cell?_alloc_past, World.cell?_drew] at hr3_0); (try simp (disch := first | omega | (simp; omega)) only [World.frozen?_alloc_past, World.frozen?_drew] at hs3_0); clear hc3 hf3)
    go_wp2
    exact bodyPost_ret (v := fbool 0) (by simp [results, Tryz.results51, go_sem, *]) rfl ⟨rfl, (by repeat (first | with_reducible exact Below.refl _ _ | with_reducible assumption | ((with_reducible refine Below.setCell ?_ ?_ _); rotate_left; (simp; try omega)) | (with_reducible refine Ext.tr ?_ (by with_reducible assumption)) | (with_reducible refine Ext.al ?_ _) | (with_reducible refine below_drewN ?_ _) | (with_reducible refine Below.drew ?_)))⟩

/-- Memory of one formulaArg, cell by cell. -/
structure FaAt (w : World) (R : Nat) (x : Nat) (s : ByteArray) (bb : Bool) (m : ByteArray) (k : Int) : Prop where
  c0 : w.cell? ⟨R, 0, none⟩ = some (.string ⟨#[]⟩)
  c1 : w.cell? ⟨R, 1, none⟩ = some (.float .f64 x)
  c2 : w.cell? ⟨R, 2, none⟩ = some (.string s)
  c3 : w.cell? ⟨R, 3, none⟩ = some (.slice none 0 0)
  c4 : w.cell? ⟨R, 4, none⟩ = some (.slice none 0 0)
  c5 : w.cell? ⟨R, 5, none⟩ = some (.bool bb)
  c6 : w.cell? ⟨R, 6, none⟩ = some (.string m)
  c7 : w.cell? ⟨R, 7, none⟩ = some (.int .u8 k)
  c8 : w.cell? ⟨R, 8, none⟩ = some (.pointer none)
  c9 : w.cell? ⟨R, 9, none⟩ = some (.pointer none)
  fz : ∀ o, w.frozen? ⟨R, o, none⟩ = false

theorem FaAt.of {w : World} {R x : Nat} {s : ByteArray} {bb : Bool} {m : ByteArray} {k : Int} {t : TypeId} (h : w.heap[R]? = some (.cells (faC x s bb m k) t)) : FaAt w R x s bb m k := by
  constructor <;> simp [World.cell?, World.frozen?, h]

theorem take_any {α : Type} (p : α → Bool) (l : List α) (i : Nat) (y : α) (h : l[i]? = some y) : (l.take (i + 1)).any p = ((l.take i).any p || p y) := by
  rw [List.take_add_one, h]
  simp [List.any_append]

def nmISERROR : List ByteArray := [⟨#[35, 68, 73, 86, 47, 48, 33]⟩, ⟨#[35, 78, 65, 77, 69, 63]⟩, ⟨#[35, 78, 47, 65]⟩, ⟨#[35, 78, 85, 77, 33]⟩, ⟨#[35, 86, 65, 76, 85, 69, 33]⟩, ⟨#[35, 82, 69, 70, 33]⟩, ⟨#[35, 78, 85, 76, 76, 33]⟩, ⟨#[35, 83, 80, 73, 76, 76, 33]⟩, ⟨#[35, 67, 65, 76, 67, 33]⟩, ⟨#[35, 71, 69, 84, 84, 73, 78, 71, 95, 68, 65, 84, 65]⟩]

set_option maxHeartbeats 6400000 in
theorem fn_iserror (x : Nat) (s m : ByteArray) (bb : Bool) (r : Bool) (hr : nmISERROR.any (fun y => y.toList == s.toList) = r) (fb b B : Nat) (w : World) (h : ArgsAt w b B [faC x s bb m 5]) :
    Calls Tryz.prog 48 #[ptr fb, ptr b] w (Gives w (fbool (oneW r))) := by
  have HA := Lib.hid h; clear h
  have HN := Lib.hid (fun r w' => newBool_w r w')
  obtain ⟨nm, hnm⟩ : ∃ nm, nmISERROR = nm := ⟨_, rfl⟩
  have hlen : nm.length = 10 := by rw [← hnm]; rfl
  rw [hnm] at hr
  have HR := Lib.hid hr; clear hr
  go_enter Tryz.func48, Tryz.ntmps48
  (go_wp2_with fail; refine (len_ok _ b B _ (HA.out.ext (by repeat (first | with_reducible exact Below.refl _ _ | with_reducible assumption | ((with_reducible refine Below.setCell ?_ ?_ _); rotate_left; (simp; try omega)) | (with_reducible refine Ext.tr ?_ (by with_reducible assumption)) | (with_reducible refine Ext.al ?_ _) | (with_reducible refine below_drewN ?_ _) | (with_reducible refine Below.drew ?_))))).mono ?_; rintro e w1 ⟨rfl, rfl⟩)
  (go_wp2_with fail; refine (front_ok _ b B _ [] (HA.out.ext (by repeat (first | with_reducible exact Below.refl _ _ | with_reducible assumption | ((with_reducible refine Below.setCell ?_ ?_ _); rotate_left; (simp; try omega)) | (with_reducible refine Ext.tr ?_ (by with_reducible assumption)) | (with_reducible refine Ext.al ?_ _) | (with_reducible refine below_drewN ?_ _) | (with_reducible refine Below.drew ?_))))).mono ?_; rintro e w1 ⟨⟨n1, rfl, he⟩, rfl⟩)
  unfold ElemAt at he
  go_wp2_with fail
  clear he
  have hNM : ∀ i y, nm[i]? = some y → (((w.alloc (.cells (faC 0 ⟨#[]⟩ false ⟨#[]⟩ 0) 62)).alloc (.cells (faC x s bb m 5) 62)).alloc (.cells #[.string ⟨#[35, 68, 73, 86, 47, 48, 33]⟩, .string ⟨#[35, 78, 65, 77, 69, 63]⟩, .string ⟨#[35, 78, 47, 65]⟩, .string ⟨#[35, 78, 85, 77, 33]⟩, .string ⟨#[35, 86, 65, 76, 85, 69, 33]⟩, .string ⟨#[35, 82, 69, 70, 33]⟩, .string ⟨#[35, 78, 85, 76, 76, 33]⟩, .string ⟨#[35, 83, 80, 73, 76, 76, 33]⟩, .string ⟨#[35, 67, 65, 76, 67, 33]⟩, .string ⟨#[35, 71, 69, 84, 84, 73, 78, 71, 95, 68, 65, 84, 65]⟩] 9)).cell? ⟨w.heap.size + 1 + 1, i, none⟩ = some (.string y) := by
    intro i y hy
    rw [World.cell?_alloc_at _ _ _ _ (by simp)]
    rw [← hnm] at hy
    have hi : i < 10 := by
      have := (List.getElem?_eq_some_iff.1 hy).1
      exact this
    revert hy
    match i, hi with
    | 0, _ => intro hy; rw [← Option.some.inj hy]; rfl
    | 1, _ => intro hy; rw [← Option.some.inj hy]; rfl
    | 2, _ => intro hy; rw [← Option.some.inj hy]; rfl
    | 3, _ => intro hy; rw [← Option.some.inj hy]; rfl
    | 4, _ => intro hy; rw [← Option.some.inj hy]; rfl
    | 5, _ => intro hy; rw [← Option.some.inj hy]; rfl
    | 6, _ => intro hy; rw [← Option.some.inj hy]; rfl
    | 7, _ => intro hy; rw [← Option.some.inj hy]; rfl
    | 8, _ => intro hy; rw [← Option.some.inj hy]; rfl
    | 9, _ => intro hy; rw [← Option.some.inj hy]; rfl
  have hFA := FaAt.of (w := ((w.alloc (.cells (faC 0 ⟨#[]⟩ false ⟨#[]⟩ 0) 62)).alloc (.cells (faC x s bb m 5) 62)).alloc (.cells #[.string ⟨#[35, 68, 73, 86, 47, 48, 33]⟩, .string ⟨#[35, 78, 65, 77, 69, 63]⟩, .string ⟨#[35, 78, 47, 65]⟩, .string ⟨#[35, 78, 85, 77, 33]⟩, .string ⟨#[35, 86, 65, 76, 85, 69, 33]⟩, .string ⟨#[35, 82, 69, 70, 33]⟩, .string ⟨#[35, 78, 85, 76, 76, 33]⟩, .string ⟨#[35, 83, 80, 73, 76, 76, 33]⟩, .string ⟨#[35, 67, 65, 76, 67, 33]⟩, .string ⟨#[35, 71, 69, 84, 84, 73, 78, 71, 95, 68, 65, 84, 65]⟩] 9)) (R := w.heap.size) (x := 0) (s := ⟨#[]⟩) (bb := false) (m := ⟨#[]⟩) (k := 0) (t := 62) (by rw [heap_alloc_old _ _ _ (by first | omega | (simp; done) | (simp; omega)), heap_alloc_old _ _ _ (by first | omega | (simp; done) | (simp; omega))]; exact heap_alloc_new _ _ _ rfl)
  have hFB := FaAt.of (w := ((w.alloc (.cells (faC 0 ⟨#[]⟩ false ⟨#[]⟩ 0) 62)).alloc (.cells (faC x s bb m 5) 62)).alloc (.cells #[.string ⟨#[35, 68, 73, 86, 47, 48, 33]⟩, .string ⟨#[35, 78, 65, 77, 69, 63]⟩, .string ⟨#[35, 78, 47, 65]⟩, .string ⟨#[35, 78, 85, 77, 33]⟩, .string ⟨#[35, 86, 65, 76, 85, 69, 33]⟩, .string ⟨#[35, 82, 69, 70, 33]⟩, .string ⟨#[35, 78, 85, 76, 76, 33]⟩, .string ⟨#[35, 83, 80, 73, 76, 76, 33]⟩, .string ⟨#[35, 67, 65, 76, 67, 33]⟩, .string ⟨#[35, 71, 69, 84, 84, 73, 78, 71, 95, 68, 65, 84, 65]⟩] 9)) (R := w.heap.size + 1) (x := x) (s := s) (bb := bb) (m := m) (k := 5) (t := 62) (by rw [heap_alloc_old _ _ _ (by first | omega | (simp; done) | (simp; omega))]; exact heap_alloc_new _ _ _ (by simp))
  have hWX : Ext w (((w.alloc (.cells (faC 0 ⟨#[]⟩ false ⟨#[]⟩ 0) 62)).alloc (.cells (faC x s bb m 5) 62)).alloc (.cells #[.string ⟨#[35, 68, 73, 86, 47, 48, 33]⟩, .string ⟨#[35, 78, 65, 77, 69, 63]⟩, .string ⟨#[35, 78, 47, 65]⟩, .string ⟨#[35, 78, 85, 77, 33]⟩, .string ⟨#[35, 86, 65, 76, 85, 69, 33]⟩, .string ⟨#[35, 82, 69, 70, 33]⟩, .string ⟨#[35, 78, 85, 76, 76, 33]⟩, .string ⟨#[35, 83, 80, 73, 76, 76, 33]⟩, .string ⟨#[35, 67, 65, 76, 67, 33]⟩, .string ⟨#[35, 71, 69, 84, 84, 73, 78, 71, 95, 68, 65, 84, 65]⟩] 9)) := (((Ext.rf w).al _).al _).al _
  have hWS : w.heap.size + 1 + 1 < (((w.alloc (.cells (faC 0 ⟨#[]⟩ false ⟨#[]⟩ 0) 62)).alloc (.cells (faC x s bb m 5) 62)).alloc (.cells #[.string ⟨#[35, 68, 73, 86, 47, 48, 33]⟩, .string ⟨#[35, 78, 65, 77, 69, 63]⟩, .string ⟨#[35, 78, 47, 65]⟩, .string ⟨#[35, 78, 85, 77, 33]⟩, .string ⟨#[35, 86, 65, 76, 85, 69, 33]⟩, .string ⟨#[35, 82, 69, 70, 33]⟩, .string ⟨#[35, 78, 85, 76, 76, 33]⟩, .string ⟨#[35, 83, 80, 73, 76, 76, 33]⟩, .string ⟨#[35, 67, 65, 76, 67, 33]⟩, .string ⟨#[35, 71, 69, 84, 84, 73, 78, 71, 95, 68, 65, 84, 65]⟩] 9)).heap.size := by simp
  change Code.wp _ _ _ _ (((w.alloc (.cells (faC 0 ⟨#[]⟩ false ⟨#[]⟩ 0) 62)).alloc (.cells (faC x s bb m 5) 62)).alloc (.cells #[.string ⟨#[35, 68, 73, 86, 47, 48, 33]⟩, .string ⟨#[35, 78, 65, 77, 69, 63]⟩, .string ⟨#[35, 78, 47, 65]⟩, .string ⟨#[35, 78, 85, 77, 33]⟩, .string ⟨#[35, 86, 65, 76, 85, 69, 33]⟩, .string ⟨#[35, 82, 69, 70, 33]⟩, .string ⟨#[35, 78, 85, 76, 76, 33]⟩, .string ⟨#[35, 83, 80, 73, 76, 76, 33]⟩, .string ⟨#[35, 67, 65, 76, 67, 33]⟩, .string ⟨#[35, 71, 69, 84, 84, 73, 78, 71, 95, 68, 65, 84, 65]⟩] 9))
  generalize (((w.alloc (.cells (faC 0 ⟨#[]⟩ false ⟨#[]⟩ 0) 62)).alloc (.cells (faC x s bb m 5) 62)).alloc (.cells #[.string ⟨#[35, 68, 73, 86, 47, 48, 33]⟩, .string ⟨#[35, 78, 65, 77, 69, 63]⟩, .string ⟨#[35, 78, 47, 65]⟩, .string ⟨#[35, 78, 85, 77, 33]⟩, .string ⟨#[35, 86, 65, 76, 85, 69, 33]⟩, .string ⟨#[35, 82, 69, 70, 33]⟩, .string ⟨#[35, 78, 85, 76, 76, 33]⟩, .string ⟨#[35, 83, 80, 73, 76, 76, 33]⟩, .string ⟨#[35, 67, 65, 76, 67, 33]⟩, .string ⟨#[35, 71, 69, 84, 84, 73, 78, 71, 95, 68, 65, 84, 65]⟩] 9)) = wL at hNM hFA hFB hWX hWS ⊢
  have HNM := Lib.hid hNM; have HFA := Lib.hid hFA
  have hs2 := hFB.c2
  clear hNM hFA hFB hnm
  go_loopw [6, 24] (fun s6 s24 wr => ∃ i : Nat, i ≤ 10 ∧ s24 = .int .i64 i ∧ s6 = .bool ((nm.take i).any (fun y => y.toList == s.toList)) ∧ wr = wL) (fun _ v _ => 10 - (intOf v).toNat)
  case atStart => exact ⟨0, Nat.zero_le _, rfl, rfl, rfl⟩
  case round =>
    obtain ⟨i, hi, rfl, rfl, rfl⟩ := hrel
    by_cases hlt : i < 10
    · obtain ⟨y, hy⟩ : ∃ y, nm[i]? = some y := ⟨_, List.getElem?_eq_getElem (by omega)⟩
      have hc := HNM.out i y hy
      have HT := Lib.hid (take_any (fun y => y.toList == s.toList) nm i y hy)
      clear hy
      generalize (nm.take i).any (fun y => y.toList == s.toList) = q at HT ⊢
      cases hq : (y.toList == s.toList)
      · go_wp2_with fail
        go_roundw
        case rel => exact ⟨i + 1, by omega, by go_num, by rw [HT.out, hq, Bool.or_false], by first | trivial | rfl⟩
        case measure => simp [intOf]; omega
      · go_wp2_with fail
        go_roundw
        case rel => exact ⟨i + 1, by omega, by go_num, by rw [HT.out, hq, Bool.or_true], by first | trivial | rfl⟩
        case measure => simp [intOf]; omega
    · have hin : i = 10 := by omega
      subst hin
      have hall : (nm.take 10).any (fun y => y.toList == s.toList) = r := by rw [List.take_of_length_le (by omega)]; exact HR.out
      rw [hall]
      clear hs2
      obtain ⟨f0, f1, f2, f3, f4, f5, f6, f7, f8, f9, ff⟩ := HFA.out
      (go_wp2_with fail; refine (HN.out r _).mono ?_; rintro e w3 ⟨rfl, hb3⟩; obtain ⟨hc3, hf3, hz3⟩ := ext_facts hb3; (try simp at hz3); (have hq3_0 : w.heap.size < w3.heap.size := by omega); (have hl3_0 : w.heap.size ≤ w3.heap.size := by omega); (have hr3_0 := fun o => hc3 (w.heap.size) o (by first | omega | (simp; done) | (simp; omega))); (have hs3_0 := fun o => hf3 (w.heap.size) o (by first | omega | (simp; done) | (simp; omega))); (try simp (disch := first | omega | (simp; omega)) only [World.cell?_alloc_past, World.cell?_drew] at hr3_0); (try simp (disch := first | omega | (simp; omega)) only [World.frozen?_alloc_past, World.frozen?_drew] at hs3_0); clear hc3 hf3)
      go_wp2
      exact bodyPost_ret (v := fbool (oneW r)) (by simp [results, Tryz.results48, go_sem, *]) rfl ⟨rfl, (by repeat (first | with_reducible exact Below.refl _ _ | with_reducible assumption | ((with_reducible refine Below.setCell ?_ ?_ _); rotate_left; (simp; try omega)) | (with_reducible refine Ext.tr ?_ (by with_reducible assumption)) | (with_reducible refine Ext.al ?_ _) | (with_reducible refine below_drewN ?_ _) | (with_reducible refine Below.drew ?_)))⟩

set_option maxHeartbeats 3200000 in
theorem fn_iserror_no (x : Nat) (s m : ByteArray) (bb : Bool) (k : Int) (hk : k ≠ 5) (fb b B : Nat) (w : World) (h : ArgsAt w b B [faC x s bb m k]) :
    Calls Tryz.prog 48 #[ptr fb, ptr b] w (Gives w (fbool 0)) := by
  have HA := Lib.hid h; clear h
  have hb : (k == 5) = false := beq_eq_false_iff_ne.2 hk
  go_enter Tryz.func48, Tryz.ntmps48
  (go_wp2_with fail; refine (len_ok _ b B _ (HA.out.ext (by repeat (first | with_reducible exact Below.refl _ _ | with_reducible assumption | ((with_reducible refine Below.setCell ?_ ?_ _); rotate_left; (simp; try omega)) | (with_reducible refine Ext.tr ?_ (by with_reducible assumption)) | (with_reducible refine Ext.al ?_ _) | (with_reducible refine below_drewN ?_ _) | (with_reducible refine Below.drew ?_))))).mono ?_; rintro e w1 ⟨rfl, rfl⟩)
  (go_wp2_with fail; refine (front_ok _ b B _ [] (HA.out.ext (by repeat (first | with_reducible exact Below.refl _ _ | with_reducible assumption | ((with_reducible refine Below.setCell ?_ ?_ _); rotate_left; (simp; try omega)) | (with_reducible refine Ext.tr ?_ (by with_reducible assumption)) | (with_reducible refine Ext.al ?_ _) | (with_reducible refine below_drewN ?_ _) | (with_reducible refine Below.drew ?_))))).mono ?_; rintro e w1 ⟨⟨n1, rfl, he⟩, rfl⟩)
  unfold ElemAt at he
  (go_wp2_with fail; refine (newBool_false _).mono ?_; rintro e w3 ⟨rfl, hb3⟩; obtain ⟨hc3, hf3, hz3⟩ := ext_facts hb3; (try simp at hz3); (have hq3_0 : w.heap.size < w3.heap.size := by omega); (have hl3_0 : w.heap.size ≤ w3.heap.size := by omega); (have hr3_0 := fun o => hc3 (w.heap.size) o (by first | omega | (simp; done) | (simp; omega))); (have hs3_0 := fun o => hf3 (w.heap.size) o (by first | omega | (simp; done) | (simp; omega))); (try simp (disch := first | omega | (simp; omega)) only [World.cell?_alloc_past, World.cell?_drew] at hr3_0); (try simp (disch := first | omega | (simp; omega)) only [World.frozen?_alloc_past, World.frozen?_drew] at hs3_0); clear hc3 hf3)
  go_wp2
  exact bodyPost_ret (v := fbool 0) (by simp [results, Tryz.results48, go_sem, *]) rfl ⟨rfl, (by repeat (first | with_reducible exact Below.refl _ _ | with_reducible assumption | ((with_reducible refine Below.setCell ?_ ?_ _); rotate_left; (simp; try omega)) | (with_reducible refine Ext.tr ?_ (by with_reducible assumption)) | (with_reducible refine Ext.al ?_ _) | (with_reducible refine below_drewN ?_ _) | (with_reducible refine Below.drew ?_)))⟩

def nmISERR : List ByteArray := [⟨#[35, 68, 73, 86, 47, 48, 33]⟩, ⟨#[35, 78, 65, 77, 69, 63]⟩, ⟨#[35, 78, 85, 77, 33]⟩, ⟨#[35, 86, 65, 76, 85, 69, 33]⟩, ⟨#[35, 82, 69, 70, 33]⟩, ⟨#[35, 78, 85, 76, 76, 33]⟩, ⟨#[35, 83, 80, 73, 76, 76, 33]⟩, ⟨#[35, 67, 65, 76, 67, 33]⟩, ⟨#[35, 71, 69, 84, 84, 73, 78, 71, 95, 68, 65, 84, 65]⟩]

set_option maxHeartbeats 6400000 in
theorem fn_iserr (x : Nat) (s m : ByteArray) (bb : Bool) (r : Bool) (hr : nmISERR.any (fun y => y.toList == s.toList) = r) (fb b B : Nat) (w : World) (h : ArgsAt w b B [faC x s bb m 5]) :
    Calls Tryz.prog 50 #[ptr fb, ptr b] w (Gives w (fbool (oneW r))) := by
  have HA := Lib.hid h; clear h
  have HN := Lib.hid (fun r w' => newBool_w r w')
  obtain ⟨nm, hnm⟩ : ∃ nm, nmISERR = nm := ⟨_, rfl⟩
  have hlen : nm.length = 9 := by rw [← hnm]; rfl
  rw [hnm] at hr
  have HR := Lib.hid hr; clear hr
  go_enter Tryz.func50, Tryz.ntmps50
  (go_wp2_with fail; refine (len_ok _ b B _ (HA.out.ext (by repeat (first | with_reducible exact Below.refl _ _ | with_reducible assumption | ((with_reducible refine Below.setCell ?_ ?_ _); rotate_left; (simp; try omega)) | (with_reducible refine Ext.tr ?_ (by with_reducible assumption)) | (with_reducible refine Ext.al ?_ _) | (with_reducible refine below_drewN ?_ _) | (with_reducible refine Below.drew ?_))))).mono ?_; rintro e w1 ⟨rfl, rfl⟩)
  (go_wp2_with fail; refine (front_ok _ b B _ [] (HA.out.ext (by repeat (first | with_reducible exact Below.refl _ _ | with_reducible assumption | ((with_reducible refine Below.setCell ?_ ?_ _); rotate_left; (simp; try omega)) | (with_reducible refine Ext.tr ?_ (by with_reducible assumption)) | (with_reducible refine Ext.al ?_ _) | (with_reducible refine below_drewN ?_ _) | (with_reducible refine Below.drew ?_))))).mono ?_; rintro e w1 ⟨⟨n1, rfl, he⟩, rfl⟩)
  unfold ElemAt at he
  go_wp2_with fail
  clear he
  have hNM : ∀ i y, nm[i]? = some y → (((w.alloc (.cells (faC 0 ⟨#[]⟩ false ⟨#[]⟩ 0) 62)).alloc (.cells (faC x s bb m 5) 62)).alloc (.cells #[.string ⟨#[35, 68, 73, 86, 47, 48, 33]⟩, .string ⟨#[35, 78, 65, 77, 69, 63]⟩, .string ⟨#[35, 78, 85, 77, 33]⟩, .string ⟨#[35, 86, 65, 76, 85, 69, 33]⟩, .string ⟨#[35, 82, 69, 70, 33]⟩, .string ⟨#[35, 78, 85, 76, 76, 33]⟩, .string ⟨#[35, 83, 80, 73, 76, 76, 33]⟩, .string ⟨#[35, 67, 65, 76, 67, 33]⟩, .string ⟨#[35, 71, 69, 84, 84, 73, 78, 71, 95, 68, 65, 84, 65]⟩] 9)).cell? ⟨w.heap.size + 1 + 1, i, none⟩ = some (.string y) := by
    intro i y hy
    rw [World.cell?_alloc_at _ _ _ _ (by simp)]
    rw [← hnm] at hy
    have hi : i < 9 := by
      have := (List.getElem?_eq_some_iff.1 hy).1
      exact this
    revert hy
    match i, hi with
    | 0, _ => intro hy; rw [← Option.some.inj hy]; rfl
    | 1, _ => intro hy; rw [← Option.some.inj hy]; rfl
    | 2, _ => intro hy; rw [← Option.some.inj hy]; rfl
    | 3, _ => intro hy; rw [← Option.some.inj hy]; rfl
    | 4, _ => intro hy; rw [← Option.some.inj hy]; rfl
    | 5, _ => intro hy; rw [← Option.some.inj hy]; rfl
    | 6, _ => intro hy; rw [← Option.some.inj hy]; rfl
    | 7, _ => intro hy; rw [← Option.some.inj hy]; rfl
    | 8, _ => intro hy; rw [← Option.some.inj hy]; rfl
  have hFA := FaAt.of (w := ((w.alloc (.cells (faC 0 ⟨#[]⟩ false ⟨#[]⟩ 0) 62)).alloc (.cells (faC x s bb m 5) 62)).alloc (.cells #[.string ⟨#[35, 68, 73, 86, 47, 48, 33]⟩, .string ⟨#[35, 78, 65, 77, 69, 63]⟩, .string ⟨#[35, 78, 85, 77, 33]⟩, .string ⟨#[35, 86, 65, 76, 85, 69, 33]⟩, .string ⟨#[35, 82, 69, 70, 33]⟩, .string ⟨#[35, 78, 85, 76, 76, 33]⟩, .string ⟨#[35, 83, 80, 73, 76, 76, 33]⟩, .string ⟨#[35, 67, 65, 76, 67, 33]⟩, .string ⟨#[35, 71, 69, 84, 84, 73, 78, 71, 95, 68, 65, 84, 65]⟩] 9)) (R := w.heap.size) (x := 0) (s := ⟨#[]⟩) (bb := false) (m := ⟨#[]⟩) (k := 0) (t := 62) (by rw [heap_alloc_old _ _ _ (by first | omega | (simp; done) | (simp; omega)), heap_alloc_old _ _ _ (by first | omega | (simp; done) | (simp; omega))]; exact heap_alloc_new _ _ _ rfl)
  have hFB := FaAt.of (w := ((w.alloc (.cells (faC 0 ⟨#[]⟩ false ⟨#[]⟩ 0) 62)).alloc (.cells (faC x s bb m 5) 62)).alloc (.cells #[.string ⟨#[35, 68, 73, 86, 47, 48, 33]⟩, .string ⟨#[35, 78, 65, 77, 69, 63]⟩, .string ⟨#[35, 78, 85, 77, 33]⟩, .string ⟨#[35, 86, 65, 76, 85, 69, 33]⟩, .string ⟨#[35, 82, 69, 70, 33]⟩, .string ⟨#[35, 78, 85, 76, 76, 33]⟩, .string ⟨#[35, 83, 80, 73, 76, 76, 33]⟩, .string ⟨#[35, 67, 65, 76, 67, 33]⟩, .string ⟨#[35, 71, 69, 84, 84, 73, 78, 71, 95, 68, 65, 84, 65]⟩] 9)) (R := w.heap.size + 1) (x := x) (s := s) (bb := bb) (m := m) (k := 5) (t := 62) (by rw [heap_alloc_old _ _ _ (by first | omega | (simp; done) | (simp; omega))]; exact heap_alloc_new _ _ _ (by simp))
  have hWX : Ext w (((w.alloc (.cells (faC 0 ⟨#[]⟩ false ⟨#[]⟩ 0) 62)).alloc (.cells (faC x s bb m 5) 62)).alloc (.cells #[.string ⟨#[35, 68, 73, 86, 47, 48, 33]⟩, .string ⟨#[35, 78, 65, 77, 69, 63]⟩, .string ⟨#[35, 78, 85, 77, 33]⟩, .string ⟨#[35, 86, 65, 76, 85, 69, 33]⟩, .string ⟨#[35, 82, 69, 70, 33]⟩, .string ⟨#[35, 78, 85, 76, 76, 33]⟩, .string ⟨#[35, 83, 80, 73, 76, 76, 33]⟩, .string ⟨#[35, 67, 65, 76, 67, 33]⟩, .string ⟨#[35, 71, 69, 84, 84, 73, 78, 71, 95, 68, 65, 84, 65]⟩] 9)) := (((Ext.rf w).al _).al _).al _
  have hWS : w.heap.size + 1 + 1 < (((w.alloc (.cells (faC 0 ⟨#[]⟩ false ⟨#[]⟩ 0) 62)).alloc (.cells (faC x s bb m 5) 62)).alloc (.cells #[.string ⟨#[35, 68, 73, 86, 47, 48, 33]⟩, .string ⟨#[35, 78, 65, 77, 69, 63]⟩, .string ⟨#[35, 78, 85, 77, 33]⟩, .string ⟨#[35, 86, 65, 76, 85, 69, 33]⟩, .string ⟨#[35, 82, 69, 70, 33]⟩, .string ⟨#[35, 78, 85, 76, 76, 33]⟩, .string ⟨#[35, 83, 80, 73, 76, 76, 33]⟩, .string ⟨#[35, 67, 65, 76, 67, 33]⟩, .string ⟨#[35, 71, 69, 84, 84, 73, 78, 71, 95, 68, 65, 84, 65]⟩] 9)).heap.size := by simp
  change Code.wp _ _ _ _ (((w.alloc (.cells (faC 0 ⟨#[]⟩ false ⟨#[]⟩ 0) 62)).alloc (.cells (faC x s bb m 5) 62)).alloc (.cells #[.string ⟨#[35, 68, 73, 86, 47, 48, 33]⟩, .string ⟨#[35, 78, 65, 77, 69, 63]⟩, .string ⟨#[35, 78, 85, 77, 33]⟩, .string ⟨#[35, 86, 65, 76, 85, 69, 33]⟩, .string ⟨#[35, 82, 69, 70, 33]⟩, .string ⟨#[35, 78, 85, 76, 76, 33]⟩, .string ⟨#[35, 83, 80, 73, 76, 76, 33]⟩, .string ⟨#[35, 67, 65, 76, 67, 33]⟩, .string ⟨#[35, 71, 69, 84, 84, 73, 78, 71, 95, 68, 65, 84, 65]⟩] 9))
  generalize (((w.alloc (.cells (faC 0 ⟨#[]⟩ false ⟨#[]⟩ 0) 62)).alloc (.cells (faC x s bb m 5) 62)).alloc (.cells #[.string ⟨#[35, 68, 73, 86, 47, 48, 33]⟩, .string ⟨#[35, 78, 65, 77, 69, 63]⟩, .string ⟨#[35, 78, 85, 77, 33]⟩, .string ⟨#[35, 86, 65, 76, 85, 69, 33]⟩, .string ⟨#[35, 82, 69, 70, 33]⟩, .string ⟨#[35, 78, 85, 76, 76, 33]⟩, .string ⟨#[35, 83, 80, 73, 76, 76, 33]⟩, .string ⟨#[35, 67, 65, 76, 67, 33]⟩, .string ⟨#[35, 71, 69, 84, 84, 73, 78, 71, 95, 68, 65, 84, 65]⟩] 9)) = wL at hNM hFA hFB hWX hWS ⊢
  have HNM := Lib.hid hNM; have HFA := Lib.hid hFA
  have hs2 := hFB.c2
  clear hNM hFA hFB hnm
  go_loopw [6, 24] (fun s6 s24 wr => ∃ i : Nat, i ≤ 9 ∧ s24 = .int .i64 i ∧ s6 = .bool ((nm.take i).any (fun y => y.toList == s.toList)) ∧ wr = wL) (fun _ v _ => 9 - (intOf v).toNat)
  case atStart => exact ⟨0, Nat.zero_le _, rfl, rfl, rfl⟩
  case round =>
    obtain ⟨i, hi, rfl, rfl, rfl⟩ := hrel
    by_cases hlt : i < 9
    · obtain ⟨y, hy⟩ : ∃ y, nm[i]? = some y := ⟨_, List.getElem?_eq_getElem (by omega)⟩
      have hc := HNM.out i y hy
      have HT := Lib.hid (take_any (fun y => y.toList == s.toList) nm i y hy)
      clear hy
      generalize (nm.take i).any (fun y => y.toList == s.toList) = q at HT ⊢
      cases hq : (y.toList == s.toList)
      · go_wp2_with fail
        go_roundw
        case rel => exact ⟨i + 1, by omega, by go_num, by rw [HT.out, hq, Bool.or_false], by first | trivial | rfl⟩
        case measure => simp [intOf]; omega
      · go_wp2_with fail
        go_roundw
        case rel => exact ⟨i + 1, by omega, by go_num, by rw [HT.out, hq, Bool.or_true], by first | trivial | rfl⟩
        case measure => simp [intOf]; omega
    · have hin : i = 9 := by omega
      subst hin
      have hall : (nm.take 9).any (fun y => y.toList == s.toList) = r := by rw [List.take_of_length_le (by omega)]; exact HR.out
      rw [hall]
      clear hs2
      obtain ⟨f0, f1, f2, f3, f4, f5, f6, f7, f8, f9, ff⟩ := HFA.out
      (go_wp2_with fail; refine (HN.out r _).mono ?_; rintro e w3 ⟨rfl, hb3⟩; obtain ⟨hc3, hf3, hz3⟩ := ext_facts hb3; (try simp at hz3); (have hq3_0 : w.heap.size < w3.heap.size := by omega); (have hl3_0 : w.heap.size ≤ w3.heap.size := by omega); (have hr3_0 := fun o => hc3 (w.heap.size) o (by first | omega | (simp; done) | (simp; omega))); (have hs3_0 := fun o => hf3 (w.heap.size) o (by first | omega | (simp; done) | (simp; omega))); (try simp (disch := first | omega | (simp; omega)) only [World.cell?_alloc_past, World.cell?_drew] at hr3_0); (try simp (disch := first | omega | (simp; omega)) only [World.frozen?_alloc_past, World.frozen?_drew] at hs3_0); clear hc3 hf3)
      go_wp2
      exact bodyPost_ret (v := fbool (oneW r)) (by simp [results, Tryz.results50, go_sem, *]) rfl ⟨rfl, (by repeat (first | with_reducible exact Below.refl _ _ | with_reducible assumption | ((with_reducible refine Below.setCell ?_ ?_ _); rotate_left; (simp; try omega)) | (with_reducible refine Ext.tr ?_ (by with_reducible assumption)) | (with_reducible refine Ext.al ?_ _) | (with_reducible refine below_drewN ?_ _) | (with_reducible refine Below.drew ?_)))⟩

set_option maxHeartbeats 3200000 in
theorem fn_iserr_no (x : Nat) (s m : ByteArray) (bb : Bool) (k : Int) (hk : k ≠ 5) (fb b B : Nat) (w : World) (h : ArgsAt w b B [faC x s bb m k]) :
    Calls Tryz.prog 50 #[ptr fb, ptr b] w (Gives w (fbool 0)) := by
  have HA := Lib.hid h; clear h
  have hb : (k == 5) = false := beq_eq_false_iff_ne.2 hk
  go_enter Tryz.func50, Tryz.ntmps50
  (go_wp2_with fail; refine (len_ok _ b B _ (HA.out.ext (by repeat (first | with_reducible exact Below.refl _ _ | with_reducible assumption | ((with_reducible refine Below.setCell ?_ ?_ _); rotate_left; (simp; try omega)) | (with_reducible refine Ext.tr ?_ (by with_reducible assumption)) | (with_reducible refine Ext.al ?_ _) | (with_reducible refine below_drewN ?_ _) | (with_reducible refine Below.drew ?_))))).mono ?_; rintro e w1 ⟨rfl, rfl⟩)
  (go_wp2_with fail; refine (front_ok _ b B _ [] (HA.out.ext (by repeat (first | with_reducible exact Below.refl _ _ | with_reducible assumption | ((with_reducible refine Below.setCell ?_ ?_ _); rotate_left; (simp; try omega)) | (with_reducible refine Ext.tr ?_ (by with_reducible assumption)) | (with_reducible refine Ext.al ?_ _) | (with_reducible refine below_drewN ?_ _) | (with_reducible refine Below.drew ?_))))).mono ?_; rintro e w1 ⟨⟨n1, rfl, he⟩, rfl⟩)
  unfold ElemAt at he
  (go_wp2_with fail; refine (newBool_false _).mono ?_; rintro e w3 ⟨rfl, hb3⟩; obtain ⟨hc3, hf3, hz3⟩ := ext_facts hb3; (try simp at hz3); (have hq3_0 : w.heap.size < w3.heap.size := by omega); (have hl3_0 : w.heap.size ≤ w3.heap.size := by omega); (have hr3_0 := fun o => hc3 (w.heap.size) o (by first | omega | (simp; done) | (simp; omega))); (have hs3_0 := fun o => hf3 (w.heap.size) o (by first | omega | (simp; done) | (simp; omega))); (try simp (disch := first | omega | (simp; omega)) only [World.cell?_alloc_past, World.cell?_drew] at hr3_0); (try simp (disch := first | omega | (simp; omega)) only [World.frozen?_alloc_past, World.frozen?_drew] at hs3_0); clear hc3 hf3)
  go_wp2
  exact bodyPost_ret (v := fbool 0) (by simp [results, Tryz.results50, go_sem, *]) rfl ⟨rfl, (by repeat (first | with_reducible exact Below.refl _ _ | with_reducible assumption | ((with_reducible refine Below.setCell ?_ ?_ _); rotate_left; (simp; try omega)) | (with_reducible refine Ext.tr ?_ (by with_reducible assumption)) | (with_reducible refine Ext.al ?_ _) | (with_reducible refine below_drewN ?_ _) | (with_reducible refine Below.drew ?_)))⟩
end Go.Proofs.YtlbhebmjdaaglaaGreatDoor
