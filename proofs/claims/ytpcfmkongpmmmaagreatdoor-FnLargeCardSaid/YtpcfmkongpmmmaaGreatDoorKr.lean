/-
  kth of the reference.
  The reference's LARGE.
-/
import Derived.Test.YtpcfmkongpmmmaaGreatDoorSo
import Derived.Test.YtpcfmkongpmmmaaGreatDoorFg
import Derived.Test.YtpcfmkongpmmmaaGreatDoorMq
namespace Go.Proofs.YtpcfmkongpmmmaaGreatDoor
set_option linter.unusedSimpArgs false
set_option linter.unusedVariables false
open Go Go.RowKit
set_option maxRecDepth 100000

/-- How a matrix lies as the first argument, a single value as the second. -/
structure MatK (w : World) (b bm cm L H : Nat) (r : List (List Sc)) (C : Nat) (x : Sc) : Prop where
  args : ArgsIn w b 0 [(⟨5, 0, 0, ⟨#[]⟩, some ⟨bm, 0, none⟩, r.length, cm⟩, .mat r), (x.mc, .sc x)]
  lie : MLie Sc.cells 5 L H w bm 0 r
  ne : r ≠ []
  len : r.length ≤ 120
  cols : ∀ row ∈ r, row.length = C
  six : C ≤ 6
  item : ∀ x ∈ r.flatten, ItemSc x
  some : r.flatten ≠ []
  few : r.flatten.length ≤ 720

theorem MatK.ext {w w' : World} {b bm cm L H C : Nat} {r : List (List Sc)} {x : Sc} (h : MatK w b bm cm L H r C x) (hb : Ext w w') : MatK w' b bm cm L H r C x :=
  ⟨h.args.ext hb, h.lie.ext hb, h.ne, h.len, h.cols, h.six, h.item, h.some, h.few⟩

abbrev allK (r : List (List Sc)) (l : List Int) : Bool := r.flatten.all fun x => l.any fun n => x.k == n

theorem kinds_matk {w : World} {b bm cm L H C : Nat} {r : List (List Sc)} {x : Sc} (h : MatK w b bm cm L H r C x) (l : List Int) (g c2 : Nat) (hl : l.length ≤ 100) (hk : KindsAt w g l) :
    Calls Tryz.prog 71 #[(⟨5, 0, 0, ⟨#[]⟩, some ⟨bm, 0, none⟩, r.length, cm⟩ : Mc).val, .slice (some ⟨g, 0, none⟩) l.length c2] w (Gives w (.bool (allK r l))) := by
  have hro : RowsOk w ⟨5, 0, 0, ⟨#[]⟩, some ⟨bm, 0, none⟩, r.length, cm⟩ r := by
    refine ⟨fun hn => absurd rfl hn, fun _ => ⟨rfl, by have := h.len; omega, fun i row hi => ?_⟩⟩
    obtain ⟨q1, g', c', q2, q3, q4, q5⟩ := h.lie i row hi
    have hm := List.mem_of_getElem? hi
    refine ⟨q1, bm, 0, _, _, _, rfl, q2, fun w' hw' => flat_scalars row g' 0 c' w' (by rw [h.cols row hm]; have := h.six; omega) (Lie.ext (Lie.of_glie q5) hw') (fun x hx => ?_)⟩
    have hi := h.item x (List.mem_flatten.2 ⟨row, hm, hx⟩)
    rcases hi with rfl | ⟨Z, ⟨h, ht, hZ⟩ | rfl⟩ | ⟨t, rfl⟩ | rfl | rfl | ⟨t, rfl⟩
    · simp
    · rw [h.k]; decide
    all_goals simp
  exact kinds_ok _ r l g c2 w rfl hro r.flatten rfl h.some (by have := h.few; omega) hl hk

theorem kindsAt_three (w : World) (n : Nat) (hn : n = w.heap.size) (t : TypeId) : KindsAt (w.alloc (.cells #[.int .i64 1, .int .i64 2, .int .i64 0] t)) n [1, 2, 0] := by
  subst hn
  intro i m hi
  match i, hi with
  | 0, hi => have e : (1 : Int) = m := by simpa using hi
             subst e; simp [go_sem]
  | 1, hi => have e : (2 : Int) = m := by simpa using hi
             subst e; simp [go_sem]
  | 2, hi => have e : (0 : Int) = m := by simpa using hi
             subst e; simp [go_sem]

/-- The numbers of a matrix. -/
abbrev numsOf (r : List (List Sc)) : List Sc := r.flatten.filter fun x => x.k == 1

/-- What kth says, from the greatest on. -/
def KthP (r : List (List Sc)) (x want : Sc) : Prop :=
  want = ⟨6, 0, 0, ⟨#[]⟩⟩ ∨ (allK r [1, 2, 0] = true ∧ ∃ k : Int, x = ⟨1, k, 1, ⟨#[]⟩⟩ ∧
    (((k < 1 ∨ (numsOf r).length < k) ∧ want = ⟨4, 0, 0, ⟨#[35, 78, 85, 77, 33]⟩⟩) ∨
     (1 ≤ k ∧ k ≤ (numsOf r).length ∧ ∃ zs, zs.Perm (numsOf r) ∧ Ord zs ∧ zs[(numsOf r).length - k.toNat]? = some want)))

set_option maxHeartbeats 3200000 in
theorem kth_ok (r : List (List Sc)) (x : Sc) (b bm c cm L H C : Nat) (w : World) (h : MatK w b bm cm L H r C x) (hc : 2 ≤ c) (hx : x = ⟨6, 0, 0, ⟨#[]⟩⟩ ∨ ∃ k : Int, x = ⟨1, k, 1, ⟨#[]⟩⟩ ∧ -99999999999 ≤ k ∧ k ≤ 99999999999) :
    Calls Tryz.prog 59 #[.slice (some ⟨b, 0, none⟩) 2 c, .bool true] w fun e w' => ∃ want : Sc, e = .returned want.val ∧ KthP r x want ∧ Ext w w' := by
  have HK := Lib.hid (fun (w' : World) (g : Nat) (t : TypeId) (hg : g = w'.heap.size) (hw : Ext w w') => show Calls Tryz.prog 71 #[(⟨5, 0, 0, ⟨#[]⟩, some ⟨bm, 0, none⟩, r.length, cm⟩ : Mc).val, .slice (some ⟨g, 0, none⟩) 3 3] (w'.alloc (.cells #[.int .i64 1, .int .i64 2, .int .i64 0] t)) (Gives (w'.alloc (.cells #[.int .i64 1, .int .i64 2, .int .i64 0] t)) (.bool (allK r [1, 2, 0]))) from
    kinds_matk (h.ext (Ext.al hw (.cells #[.int .i64 1, .int .i64 2, .int .i64 0] t))) [1, 2, 0] g 3 (by decide) (kindsAt_three w' g hg t))
  have h5 : ∀ w', Ext w w' → (w'.cell? ⟨b, 0, none⟩ = some (.int .i64 5) ∧ w'.cell? ⟨b, 1, none⟩ = some (.int .i64 0) ∧ w'.cell? ⟨b, 2, none⟩ = some (.int .i64 0) ∧ w'.cell? ⟨b, 3, none⟩ = some (.string ⟨#[]⟩) ∧ w'.cell? ⟨b, 4, none⟩ = some (.slice (some ⟨bm, 0, none⟩) r.length cm)) ∧
      (w'.cell? ⟨b, 5, none⟩ = some (.int .i64 x.k) ∧ w'.cell? ⟨b, 6, none⟩ = some (.int .i64 x.n) ∧ w'.cell? ⟨b, 7, none⟩ = some (.int .i64 x.d) ∧ w'.cell? ⟨b, 8, none⟩ = some (.string x.t) ∧ w'.cell? ⟨b, 9, none⟩ = some (.slice none 0 0)) := fun w' hw => ⟨(h.args.ext hw).at5 (i := 0) rfl, (h.args.ext hw).at5 (i := 1) rfl⟩
  have H5 := Lib.hid h5
  obtain ⟨⟨a0, a1, a2, a3, a4⟩, a5, a6, a7, a8, a9⟩ := h5 w (Ext.rf w)
  have hbl := lt_of_cell a0
  have HM := Lib.hid h
  clear h h5
  cases hkk : allK r [1, 2, 0]
  · have HKK := Lib.hid hkk
    rw [hkk] at HK
    clear hkk
    go_enter Tryz.func59, Tryz.ntmps59
    go_wp2_with fail
    refine (HK.out _ _ _ (by simp) ((Ext.rf w).al _)).mono ?_
    rintro e w1 ⟨rfl, hb1⟩
    (obtain ⟨hc1, hf1, hz1⟩ := ext_facts hb1; (try simp at hz1); (have hq1_0 : w.heap.size < w1.heap.size := by omega); (have hl1_0 : w.heap.size ≤ w1.heap.size := by omega); (have hr1_0 := fun o => hc1 (w.heap.size) o (by first | omega | (simp; done) | (simp; omega))); (have hs1_0 := fun o => hf1 (w.heap.size) o (by first | omega | (simp; done) | (simp; omega))); (try simp (disch := first | omega | (simp; omega)) only [World.cell?_alloc_past, World.cell?_drew] at hr1_0); (try simp (disch := first | omega | (simp; omega)) only [World.frozen?_alloc_past, World.frozen?_drew] at hs1_0); clear hc1 hf1)
    have hbw1 : Ext w w1 := Ext.tr (by repeat (first | with_reducible exact Below.refl _ _ | with_reducible assumption | ((with_reducible refine Below.setCell ?_ ?_ _); rotate_left; (simp; try omega)) | (with_reducible refine Ext.tr ?_ (by with_reducible assumption)) | (with_reducible refine Ext.al ?_ _) | (with_reducible refine below_drewN ?_ _) | (with_reducible refine Below.drew ?_))) hb1
    (go_wp2_with fail; refine (doubt_any _).mono ?_; rintro e w2 ⟨rfl, hb2⟩; obtain ⟨hc2, hf2, hz2⟩ := ext_facts hb2; (try simp at hz2); (have hq2_0 : w.heap.size < w2.heap.size := by omega); (have hl2_0 : w.heap.size ≤ w2.heap.size := by omega); (have hr2_0 := fun o => hc2 (w.heap.size) o (by first | omega | (simp; done) | (simp; omega))); (have hs2_0 := fun o => hf2 (w.heap.size) o (by first | omega | (simp; done) | (simp; omega))); (try simp (disch := first | omega | (simp; omega)) only [World.cell?_alloc_past, World.cell?_drew] at hr2_0); (try simp (disch := first | omega | (simp; omega)) only [World.frozen?_alloc_past, World.frozen?_drew] at hs2_0); clear hc2 hf2)
    go_wp2
    exact bodyPost_ret (v := unsure) (by simp [results, Tryz.results59, go_sem, *]) rfl ⟨⟨6, 0, 0, ⟨#[]⟩⟩, rfl, Or.inl rfl, (by repeat (first | with_reducible exact Below.refl _ _ | with_reducible assumption | ((with_reducible refine Below.setCell ?_ ?_ _); rotate_left; (simp; try omega)) | (with_reducible refine Ext.tr ?_ (by with_reducible assumption)) | (with_reducible refine Ext.al ?_ _) | (with_reducible refine below_drewN ?_ _) | (with_reducible refine Below.drew ?_)))⟩
  · have HKK := Lib.hid hkk
    rw [hkk] at HK
    have hok : ([((⟨5, 0, 0, ⟨#[]⟩, some ⟨bm, 0, none⟩, r.length, cm⟩ : Mc), Vt.mat r)].all fun y => okArg y.2) = true := by
      rw [List.all_cons, List.all_nil, Bool.and_true]
      refine List.all_eq_true.2 fun y hy => ?_
      have := List.all_eq_true.1 hkk y hy
      simp at this ⊢
      omega
    have hout : outsOf [((⟨5, 0, 0, ⟨#[]⟩, some ⟨bm, 0, none⟩, r.length, cm⟩ : Mc), Vt.mat r)] = numsOf r := by simp [outsOf, outArg]
    have hbad : badOf [((⟨5, 0, 0, ⟨#[]⟩, some ⟨bm, 0, none⟩, r.length, cm⟩ : Mc), Vt.mat r)] = none := rfl
    have hnl : (numsOf r).length ≤ 720 := Nat.le_trans (List.length_filter_le _ _) HM.out.few
    have hmm : ∀ w', Ext w w' → Calls Tryz.prog 145 #[.slice (some ⟨b, 0, none⟩) 1 c, .bool false] w' fun e w2 => ∃ v, e = .returned (.tuple #[v, Sc.val ⟨0, 0, 0, ⟨#[]⟩⟩, .bool true]) ∧ Owns w2 w'.heap.size v (numsOf r) ∧ Ext w' w2 := by
      intro w' hw
      refine (members_ok [((⟨5, 0, 0, ⟨#[]⟩, some ⟨bm, 0, none⟩, r.length, cm⟩ : Mc), Vt.mat r)] b 0 c w' (by simp) (by simp; omega) ((HM.out.args.ext hw).sub (k := 0) rfl) (fun y hy x e => by rw [List.mem_singleton.1 hy] at e; cases e) (fun y hy => by rw [List.mem_singleton.1 hy]; exact Nat.le_trans hnl (by omega))).mono ?_
      rintro e w2 (⟨hno, _⟩ | ⟨_, v, he, hown, hb⟩)
      · rw [hok] at hno; cases hno
      · rw [hout] at hown
        rw [hbad] at he
        exact ⟨v, he, hown, hb⟩
    have HMM := Lib.hid hmm
    clear hkk hok hout hbad hmm
    rcases hx with rfl | ⟨k, rfl, hk1, hk2⟩
    · go_enter Tryz.func59, Tryz.ntmps59
      go_wp2_with fail
      refine (HK.out _ _ _ (by simp) ((Ext.rf w).al _)).mono ?_
      rintro e w1 ⟨rfl, hb1⟩
      (obtain ⟨hc1, hf1, hz1⟩ := ext_facts hb1; (try simp at hz1); (have hq1_0 : w.heap.size < w1.heap.size := by omega); (have hl1_0 : w.heap.size ≤ w1.heap.size := by omega); (have hr1_0 := fun o => hc1 (w.heap.size) o (by first | omega | (simp; done) | (simp; omega))); (have hs1_0 := fun o => hf1 (w.heap.size) o (by first | omega | (simp; done) | (simp; omega))); (try simp (disch := first | omega | (simp; omega)) only [World.cell?_alloc_past, World.cell?_drew] at hr1_0); (try simp (disch := first | omega | (simp; omega)) only [World.frozen?_alloc_past, World.frozen?_drew] at hs1_0); clear hc1 hf1)
      have hbw1 : Ext w w1 := Ext.tr (by repeat (first | with_reducible exact Below.refl _ _ | with_reducible assumption | ((with_reducible refine Below.setCell ?_ ?_ _); rotate_left; (simp; try omega)) | (with_reducible refine Ext.tr ?_ (by with_reducible assumption)) | (with_reducible refine Ext.al ?_ _) | (with_reducible refine below_drewN ?_ _) | (with_reducible refine Below.drew ?_))) hb1
      obtain ⟨_, b5, b6, b7, b8, b9⟩ := H5.out w1 hbw1
      go_wp2_with fail
      refine (isWhole_any _ _ _ _ _).mono ?_
      rintro e w2 ⟨rfl, hb2⟩
      (obtain ⟨hc2, hf2, hz2⟩ := ext_facts hb2; (try simp at hz2); (have hq2_0 : w.heap.size < w2.heap.size := by omega); (have hl2_0 : w.heap.size ≤ w2.heap.size := by omega); (have hr2_0 := fun o => hc2 (w.heap.size) o (by first | omega | (simp; done) | (simp; omega))); (have hs2_0 := fun o => hf2 (w.heap.size) o (by first | omega | (simp; done) | (simp; omega))); (try simp (disch := first | omega | (simp; omega)) only [World.cell?_alloc_past, World.cell?_drew] at hr2_0); (try simp (disch := first | omega | (simp; omega)) only [World.frozen?_alloc_past, World.frozen?_drew] at hs2_0); clear hc2 hf2)
      (go_wp2_with fail; refine (doubt_any _).mono ?_; rintro e w3 ⟨rfl, hb3⟩; obtain ⟨hc3, hf3, hz3⟩ := ext_facts hb3; (try simp at hz3); (have hq3_0 : w.heap.size < w3.heap.size := by omega); (have hl3_0 : w.heap.size ≤ w3.heap.size := by omega); (have hr3_0 := fun o => hc3 (w.heap.size) o (by first | omega | (simp; done) | (simp; omega))); (have hs3_0 := fun o => hf3 (w.heap.size) o (by first | omega | (simp; done) | (simp; omega))); (try simp (disch := first | omega | (simp; omega)) only [World.cell?_alloc_past, World.cell?_drew] at hr3_0); (try simp (disch := first | omega | (simp; omega)) only [World.frozen?_alloc_past, World.frozen?_drew] at hs3_0); clear hc3 hf3)
      go_wp2
      exact bodyPost_ret (v := unsure) (by simp [results, Tryz.results59, go_sem, *]) rfl ⟨⟨6, 0, 0, ⟨#[]⟩⟩, rfl, Or.inl rfl, (by repeat (first | with_reducible exact Below.refl _ _ | with_reducible assumption | ((with_reducible refine Below.setCell ?_ ?_ _); rotate_left; (simp; try omega)) | (with_reducible refine Ext.tr ?_ (by with_reducible assumption)) | (with_reducible refine Ext.al ?_ _) | (with_reducible refine below_drewN ?_ _) | (with_reducible refine Below.drew ?_)))⟩
    · by_cases hbnd : k < 1 ∨ (numsOf r).length < k
      · go_enter Tryz.func59, Tryz.ntmps59
        go_wp2_with fail
        refine (HK.out _ _ _ (by simp) ((Ext.rf w).al _)).mono ?_
        rintro e w1 ⟨rfl, hb1⟩
        (obtain ⟨hc1, hf1, hz1⟩ := ext_facts hb1; (try simp at hz1); (have hq1_0 : w.heap.size < w1.heap.size := by omega); (have hl1_0 : w.heap.size ≤ w1.heap.size := by omega); (have hr1_0 := fun o => hc1 (w.heap.size) o (by first | omega | (simp; done) | (simp; omega))); (have hs1_0 := fun o => hf1 (w.heap.size) o (by first | omega | (simp; done) | (simp; omega))); (try simp (disch := first | omega | (simp; omega)) only [World.cell?_alloc_past, World.cell?_drew] at hr1_0); (try simp (disch := first | omega | (simp; omega)) only [World.frozen?_alloc_past, World.frozen?_drew] at hs1_0); clear hc1 hf1)
        have hbw1 : Ext w w1 := Ext.tr (by repeat (first | with_reducible exact Below.refl _ _ | with_reducible assumption | ((with_reducible refine Below.setCell ?_ ?_ _); rotate_left; (simp; try omega)) | (with_reducible refine Ext.tr ?_ (by with_reducible assumption)) | (with_reducible refine Ext.al ?_ _) | (with_reducible refine below_drewN ?_ _) | (with_reducible refine Below.drew ?_))) hb1
        obtain ⟨_, b5, b6, b7, b8, b9⟩ := H5.out w1 hbw1
        go_wp2_with fail
        refine (isWhole_any _ _ _ _ _).mono ?_
        rintro e w2 ⟨rfl, hb2⟩
        (obtain ⟨hc2, hf2, hz2⟩ := ext_facts hb2; (try simp at hz2); (have hq2_0 : w.heap.size < w2.heap.size := by omega); (have hl2_0 : w.heap.size ≤ w2.heap.size := by omega); (have hr2_0 := fun o => hc2 (w.heap.size) o (by first | omega | (simp; done) | (simp; omega))); (have hs2_0 := fun o => hf2 (w.heap.size) o (by first | omega | (simp; done) | (simp; omega))); (try simp (disch := first | omega | (simp; omega)) only [World.cell?_alloc_past, World.cell?_drew] at hr2_0); (try simp (disch := first | omega | (simp; omega)) only [World.frozen?_alloc_past, World.frozen?_drew] at hs2_0); clear hc2 hf2)
        have hbw2 : Ext w w2 := hbw1.tr hb2
        go_wp2_with fail
        refine (HMM.out w2 hbw2).mono ?_
        rintro e w3 ⟨v, rfl, hown, hb3⟩
        (obtain ⟨hc3, hf3, hz3⟩ := ext_facts hb3; (try simp at hz3); (have hq3_0 : w.heap.size < w3.heap.size := by omega); (have hl3_0 : w.heap.size ≤ w3.heap.size := by omega); (have hr3_0 := fun o => hc3 (w.heap.size) o (by first | omega | (simp; done) | (simp; omega))); (have hs3_0 := fun o => hf3 (w.heap.size) o (by first | omega | (simp; done) | (simp; omega))); (try simp (disch := first | omega | (simp; omega)) only [World.cell?_alloc_past, World.cell?_drew] at hr3_0); (try simp (disch := first | omega | (simp; omega)) only [World.frozen?_alloc_past, World.frozen?_drew] at hs3_0); clear hc3 hf3)
        have hbw3 : Ext w w3 := hbw2.tr hb3
        obtain ⟨_, b5, b6, b7, b8, b9⟩ := H5.out w3 hbw3
        have hlen : ∃ a cc, v = .slice a (numsOf r).length cc := by
          obtain ⟨hl, ⟨h1, h2⟩ | ⟨g, cap, cur, h1, _⟩⟩ := hown
          · exact ⟨none, 0, by rw [h1, h2]⟩
          · exact ⟨_, _, h1⟩
        obtain ⟨a, cc, rfl⟩ := hlen
        clear hown
        have HBND := Lib.hid hbnd
        generalize (numsOf r).length = N at hbnd hnl
        have hbl3 : b < w3.heap.size := lt_of_cell b6
        rcases hbnd with hbnd | hbnd
        · (go_wp2_with fail; refine (err_any _ _).mono ?_; rintro e w4 ⟨rfl, hb4⟩; obtain ⟨hc4, hf4, hz4⟩ := ext_facts hb4; (try simp at hz4); (have hq4_0 : w.heap.size < w4.heap.size := by omega); (have hl4_0 : w.heap.size ≤ w4.heap.size := by omega); (have hr4_0 := fun o => hc4 (w.heap.size) o (by first | omega | (simp; done) | (simp; omega))); (have hs4_0 := fun o => hf4 (w.heap.size) o (by first | omega | (simp; done) | (simp; omega))); (try simp (disch := first | omega | (simp; omega)) only [World.cell?_alloc_past, World.cell?_drew] at hr4_0); (try simp (disch := first | omega | (simp; omega)) only [World.frozen?_alloc_past, World.frozen?_drew] at hs4_0); clear hc4 hf4)
          go_wp2
          exact bodyPost_ret (v := errv ⟨#[35, 78, 85, 77, 33]⟩) (by simp [results, Tryz.results59, go_sem, *]) rfl ⟨⟨4, 0, 0, ⟨#[35, 78, 85, 77, 33]⟩⟩, rfl, Or.inr ⟨HKK.out, k, rfl, Or.inl ⟨HBND.out, rfl⟩⟩, (by repeat (first | with_reducible exact Below.refl _ _ | with_reducible assumption | ((with_reducible refine Below.setCell ?_ ?_ _); rotate_left; (simp; try omega)) | (with_reducible refine Ext.tr ?_ (by with_reducible assumption)) | (with_reducible refine Ext.al ?_ _) | (with_reducible refine below_drewN ?_ _) | (with_reducible refine Below.drew ?_)))⟩
        · have hk0 : ¬ k < 1 := by omega
          (go_wp2_with fail; refine (err_any _ _).mono ?_; rintro e w4 ⟨rfl, hb4⟩; obtain ⟨hc4, hf4, hz4⟩ := ext_facts hb4; (try simp at hz4); (have hq4_0 : w.heap.size < w4.heap.size := by omega); (have hl4_0 : w.heap.size ≤ w4.heap.size := by omega); (have hr4_0 := fun o => hc4 (w.heap.size) o (by first | omega | (simp; done) | (simp; omega))); (have hs4_0 := fun o => hf4 (w.heap.size) o (by first | omega | (simp; done) | (simp; omega))); (try simp (disch := first | omega | (simp; omega)) only [World.cell?_alloc_past, World.cell?_drew] at hr4_0); (try simp (disch := first | omega | (simp; omega)) only [World.frozen?_alloc_past, World.frozen?_drew] at hs4_0); clear hc4 hf4)
          go_wp2
          exact bodyPost_ret (v := errv ⟨#[35, 78, 85, 77, 33]⟩) (by simp [results, Tryz.results59, go_sem, *]) rfl ⟨⟨4, 0, 0, ⟨#[35, 78, 85, 77, 33]⟩⟩, rfl, Or.inr ⟨HKK.out, k, rfl, Or.inl ⟨HBND.out, rfl⟩⟩, (by repeat (first | with_reducible exact Below.refl _ _ | with_reducible assumption | ((with_reducible refine Below.setCell ?_ ?_ _); rotate_left; (simp; try omega)) | (with_reducible refine Ext.tr ?_ (by with_reducible assumption)) | (with_reducible refine Ext.al ?_ _) | (with_reducible refine below_drewN ?_ _) | (with_reducible refine Below.drew ?_)))⟩
      · obtain ⟨K, hK⟩ : ∃ K : Nat, k = K := ⟨k.toNat, by omega⟩
        subst hK
        have hK1 : 1 ≤ K := by omega
        have hK2 : K ≤ (numsOf r).length := by omega
        have hnum : ∀ y ∈ numsOf r, NumK y := fun y hy => by
          obtain ⟨q1, q2⟩ := List.mem_filter.1 hy
          exact (HM.out.item y q1).num (by simpa using q2) |>.1
        have HNUM := Lib.hid hnum
        go_enter Tryz.func59, Tryz.ntmps59
        go_wp2_with fail
        refine (HK.out _ _ _ (by simp) ((Ext.rf w).al _)).mono ?_
        rintro e w1 ⟨rfl, hb1⟩
        (obtain ⟨hc1, hf1, hz1⟩ := ext_facts hb1; (try simp at hz1); (have hq1_0 : w.heap.size < w1.heap.size := by omega); (have hl1_0 : w.heap.size ≤ w1.heap.size := by omega); (have hr1_0 := fun o => hc1 (w.heap.size) o (by first | omega | (simp; done) | (simp; omega))); (have hs1_0 := fun o => hf1 (w.heap.size) o (by first | omega | (simp; done) | (simp; omega))); (try simp (disch := first | omega | (simp; omega)) only [World.cell?_alloc_past, World.cell?_drew] at hr1_0); (try simp (disch := first | omega | (simp; omega)) only [World.frozen?_alloc_past, World.frozen?_drew] at hs1_0); clear hc1 hf1)
        have hbw1 : Ext w w1 := Ext.tr (by repeat (first | with_reducible exact Below.refl _ _ | with_reducible assumption | ((with_reducible refine Below.setCell ?_ ?_ _); rotate_left; (simp; try omega)) | (with_reducible refine Ext.tr ?_ (by with_reducible assumption)) | (with_reducible refine Ext.al ?_ _) | (with_reducible refine below_drewN ?_ _) | (with_reducible refine Below.drew ?_))) hb1
        obtain ⟨_, b5, b6, b7, b8, b9⟩ := H5.out w1 hbw1
        go_wp2_with fail
        refine (isWhole_any _ _ _ _ _).mono ?_
        rintro e w2 ⟨rfl, hb2⟩
        (obtain ⟨hc2, hf2, hz2⟩ := ext_facts hb2; (try simp at hz2); (have hq2_0 : w.heap.size < w2.heap.size := by omega); (have hl2_0 : w.heap.size ≤ w2.heap.size := by omega); (have hr2_0 := fun o => hc2 (w.heap.size) o (by first | omega | (simp; done) | (simp; omega))); (have hs2_0 := fun o => hf2 (w.heap.size) o (by first | omega | (simp; done) | (simp; omega))); (try simp (disch := first | omega | (simp; omega)) only [World.cell?_alloc_past, World.cell?_drew] at hr2_0); (try simp (disch := first | omega | (simp; omega)) only [World.frozen?_alloc_past, World.frozen?_drew] at hs2_0); clear hc2 hf2)
        have hbw2 : Ext w w2 := hbw1.tr hb2
        go_wp2_with fail
        refine (HMM.out w2 hbw2).mono ?_
        rintro e w3 ⟨v, rfl, hown, hb3⟩
        (obtain ⟨hc3, hf3, hz3⟩ := ext_facts hb3; (try simp at hz3); (have hq3_0 : w.heap.size < w3.heap.size := by omega); (have hl3_0 : w.heap.size ≤ w3.heap.size := by omega); (have hr3_0 := fun o => hc3 (w.heap.size) o (by first | omega | (simp; done) | (simp; omega))); (have hs3_0 := fun o => hf3 (w.heap.size) o (by first | omega | (simp; done) | (simp; omega))); (try simp (disch := first | omega | (simp; omega)) only [World.cell?_alloc_past, World.cell?_drew] at hr3_0); (try simp (disch := first | omega | (simp; omega)) only [World.frozen?_alloc_past, World.frozen?_drew] at hs3_0); clear hc3 hf3)
        have hbw3 : Ext w w3 := hbw2.tr hb3
        obtain ⟨_, b5, b6, b7, b8, b9⟩ := H5.out w3 hbw3
        have hbl3 : b < w3.heap.size := lt_of_cell b6
        obtain ⟨g, cap, rfl, _, hlie⟩ := hown.lie (by intro h0; rw [h0] at hK2; simp at hK2; omega)
        have HSO := Lib.hid (fun (w' : World) (hw : Ext w3 w') => sorted_ok (numsOf r) g cap w' (by omega) (hlie.ext hw) HNUM.out)
        obtain ⟨N, hN⟩ : ∃ N, (numsOf r).length = N := ⟨_, rfl⟩
        rw [hN] at HSO hK2 hnl ⊢
        have HN := Lib.hid hN
        have hi1 : ¬ ((K : Int) < 1) := by omega
        have hi2 : ¬ ((N : Int) < (K : Int)) := by omega
        clear hown hlie hnum hbnd hN
        go_wp2_with fail
        refine (HSO.out _ ((Ext.rf w3).al _)).mono ?_
        rintro e w4 ⟨v, zs, rfl, hown, hperm, hord, hb4⟩
        have hbw4 : Ext w3 w4 := ((Ext.rf w3).al _).tr hb4
        have hzl : zs.length = N := by rw [hperm.length_eq]; exact HN.out
        obtain ⟨g1, cap1, rfl, hc1, hg1, hg2, hlie1⟩ := hown.form1 (n := N) hzl (by omega)
        obtain ⟨y, Hy⟩ := elem_at (show N - K < zs.length by omega)
        obtain ⟨c0, c1, c2, c3, c4⟩ := hlie1.head Hy.out
        have hfin : KthP r ⟨1, K, 1, ⟨#[]⟩⟩ y := Or.inr ⟨HKK.out, K, rfl, Or.inr ⟨by omega, by rw [HN.out]; omega, zs, hperm, hord, by rw [HN.out, Int.toNat_natCast]; exact Hy.out⟩⟩
        have HFIN := Lib.hid hfin
        have hidx : wrap64 ((N : Int) - (K : Int)) = ((N - K : Nat) : Int) := by rw [IntWalk.wrap64_in _ ⟨by omega, by omega⟩]; omega
        have hidx2 : (N : Int) - (K : Int) = ((N - K : Nat) : Int) := by omega
        clear hown hperm hord hfin hlie1
        generalize N - K = I at *
        (obtain ⟨hc4, hf4, hz4⟩ := ext_facts hb4; (try simp at hz4); (have hq4_0 : w.heap.size < w4.heap.size := by omega); (have hl4_0 : w.heap.size ≤ w4.heap.size := by omega); (have hr4_0 := fun o => hc4 (w.heap.size) o (by first | omega | (simp; done) | (simp; omega))); (have hs4_0 := fun o => hf4 (w.heap.size) o (by first | omega | (simp; done) | (simp; omega))); (try simp (disch := first | omega | (simp; omega)) only [World.cell?_alloc_past, World.cell?_drew] at hr4_0); (try simp (disch := first | omega | (simp; omega)) only [World.frozen?_alloc_past, World.frozen?_drew] at hs4_0); clear hc4 hf4)
        obtain ⟨yk, yn, yd, yt⟩ := y
        go_wp2
        exact bodyPost_ret (v := Sc.val ⟨yk, yn, yd, yt⟩) (by simp [results, Tryz.results59, go_sem, *]) rfl ⟨⟨yk, yn, yd, yt⟩, rfl, HFIN.out, (by repeat (first | with_reducible exact Below.refl _ _ | with_reducible assumption | ((with_reducible refine Below.setCell ?_ ?_ _); rotate_left; (simp; try omega)) | (with_reducible refine Ext.tr ?_ (by with_reducible assumption)) | (with_reducible refine Ext.al ?_ _) | (with_reducible refine below_drewN ?_ _) | (with_reducible refine Below.drew ?_)))⟩
end Go.Proofs.YtpcfmkongpmmmaaGreatDoor

namespace Go.Proofs.YtpcfmkongpmmmaaGreatDoor
open Go Go.RowKit
set_option maxRecDepth 100000

set_option maxHeartbeats 800000 in
theorem stat_large (r : List (List Sc)) (x : Sc) (b bm c cm L H C : Nat) (w : World) (h : MatK w b bm cm L H r C x) (hc : 2 ≤ c) (hx : x = ⟨6, 0, 0, ⟨#[]⟩⟩ ∨ ∃ k : Int, x = ⟨1, k, 1, ⟨#[]⟩⟩ ∧ -99999999999 ≤ k ∧ k ≤ 99999999999) :
    Calls Tryz.prog 33 #[.string ⟨#[76, 65, 82, 71, 69]⟩, .slice (some ⟨b, 0, none⟩) 2 c] w fun e w' => ∃ want : Sc, e = .returned (.tuple #[want.val, .bool true]) ∧ KthP r x want ∧ Ext w w' := by
  have HF := Lib.hid (fun w' (hw : Ext w w') => kth_ok r x b bm c cm L H C w' (h.ext hw) hc hx)
  clear h hx
  go_enter Tryz.func33, Tryz.ntmps33
  go_wp2_with fail
  refine (HF.out _ (by repeat (first | with_reducible exact Below.refl _ _ | with_reducible assumption | ((with_reducible refine Below.setCell ?_ ?_ _); rotate_left; (simp; try omega)) | (with_reducible refine Ext.tr ?_ (by with_reducible assumption)) | (with_reducible refine Ext.al ?_ _) | (with_reducible refine below_drewN ?_ _) | (with_reducible refine Below.drew ?_)))).mono ?_
  rintro e w1 ⟨x, rfl, hfx, hb1⟩
  have HX := Lib.hid hfx; clear hfx
  (obtain ⟨hc1, hf1, hz1⟩ := ext_facts hb1; (try simp at hz1); (have hq1_0 : w.heap.size < w1.heap.size := by omega); (have hl1_0 : w.heap.size ≤ w1.heap.size := by omega); (have hr1_0 := fun o => hc1 (w.heap.size) o (by first | omega | (simp; done) | (simp; omega))); (have hs1_0 := fun o => hf1 (w.heap.size) o (by first | omega | (simp; done) | (simp; omega))); (try simp (disch := first | omega | (simp; omega)) only [World.cell?_alloc_past, World.cell?_drew] at hr1_0); (try simp (disch := first | omega | (simp; omega)) only [World.frozen?_alloc_past, World.frozen?_drew] at hs1_0); clear hc1 hf1)
  obtain ⟨xk, xn, xd, xt⟩ := x
  go_wp2
  exact bodyPost_ret (v := .tuple #[Sc.val ⟨xk, xn, xd, xt⟩, .bool true]) (by simp [results, Tryz.results33, go_sem, *]) rfl ⟨⟨xk, xn, xd, xt⟩, rfl, HX.out, (by repeat (first | with_reducible exact Below.refl _ _ | with_reducible assumption | ((with_reducible refine Below.setCell ?_ ?_ _); rotate_left; (simp; try omega)) | (with_reducible refine Ext.tr ?_ (by with_reducible assumption)) | (with_reducible refine Ext.al ?_ _) | (with_reducible refine below_drewN ?_ _) | (with_reducible refine Below.drew ?_)))⟩

set_option maxHeartbeats 800000 in
theorem fitsNumbers_LARGE (n d : Int) (t : ByteArray) (a : Option Addr) (r rc : Nat) (b o l c : Nat) (w : World) (hl : 0 < l) (hx : At5m w b o ⟨5, n, d, t, a, r, rc⟩) :
    Calls Tryz.prog 45 #[.string ⟨#[76, 65, 82, 71, 69]⟩, .slice (some ⟨b, o, none⟩) l c] w (Gives w (.tuple #[.bool false, .bool false])) := by
  have HC := Lib.hid (every_mat n d t a r rc b o l c w hl hx)
  go_enter Tryz.func45, Tryz.ntmps45
  go_wp2_with fail
  refine HC.out.mono ?_
  rintro e w1 ⟨rfl, hb⟩
  go_wp2
  go_ret2
  exact ⟨rfl, hb⟩

set_option maxHeartbeats 800000 in
theorem fitsTexts_LARGE (a : Option Addr) (n c : Nat) (w : World) : Calls Tryz.prog 46 #[.string ⟨#[76, 65, 82, 71, 69]⟩, .slice a n c] w (Gives w (.tuple #[.bool false, .bool false])) := by
  go_enter Tryz.func46, Tryz.ntmps46
  go_wp2
  go_ret2
  exact ⟨rfl, (by repeat (first | with_reducible exact Below.refl _ _ | with_reducible assumption | ((with_reducible refine Below.setCell ?_ ?_ _); rotate_left; (simp; try omega)) | (with_reducible refine Ext.tr ?_ (by with_reducible assumption)) | (with_reducible refine Ext.al ?_ _) | (with_reducible refine below_drewN ?_ _) | (with_reducible refine Below.drew ?_)))⟩

set_option maxHeartbeats 800000 in
theorem fitsChoices_LARGE (a : Option Addr) (n c : Nat) (w : World) : Calls Tryz.prog 47 #[.string ⟨#[76, 65, 82, 71, 69]⟩, .slice a n c] w (Gives w (.tuple #[.bool false, .bool false])) := by
  go_enter Tryz.func47, Tryz.ntmps47
  go_wp2
  go_ret2
  exact ⟨rfl, (by repeat (first | with_reducible exact Below.refl _ _ | with_reducible assumption | ((with_reducible refine Below.setCell ?_ ?_ _); rotate_left; (simp; try omega)) | (with_reducible refine Ext.tr ?_ (by with_reducible assumption)) | (with_reducible refine Ext.al ?_ _) | (with_reducible refine below_drewN ?_ _) | (with_reducible refine Below.drew ?_)))⟩

set_option maxHeartbeats 400000 in
theorem others_LARGE (w : World) : Calls Tryz.prog 48 #[.string ⟨#[76, 65, 82, 71, 69]⟩] w (Gives w (.bool true)) := by
  go_enter Tryz.func48, Tryz.ntmps48
  go_wp2
  go_ret
  exact ⟨rfl, (by repeat (first | with_reducible exact Below.refl _ _ | with_reducible assumption | ((with_reducible refine Below.setCell ?_ ?_ _); rotate_left; (simp; try omega)) | (with_reducible refine Ext.tr ?_ (by with_reducible assumption)) | (with_reducible refine Ext.al ?_ _) | (with_reducible refine below_drewN ?_ _) | (with_reducible refine Below.drew ?_)))⟩
end Go.Proofs.YtpcfmkongpmmmaaGreatDoor
