/-
  FnErrors: the law's walk.
-/
import Derived.Test.YtlbhebmjdaaglaaGreatDoorEr4
import Derived.Test.YtlbhebmjdaaglaaGreatDoorRead
import Derived.Deep.Cut
import Derived.Deep.RegionHeld3
namespace Go.Proofs.YtlbhebmjdaaglaaGreatDoor
set_option linter.unusedSimpArgs false
set_option linter.unusedVariables false
open Go Go.RowKit
set_option maxRecDepth 100000

set_option maxHeartbeats 12800000 in
theorem law_small (k n : Int) (s : ByteArray) (w : World) (hk : 0 ≤ k ∧ k ≤ 255) (hn : -9223372036854775808 ≤ n ∧ n ≤ 9223372036854775807) (hz : s.size ≤ 1000) (hv : SynAt w) (ht : TabsAt w) :
    Calls Tryz.prog 3 #[.int .u8 k, .int .i64 n, .string s] w fun e w' => e = .returned (.bool true) ∧ Below w.heap.size w w' := by
  have HM := Lib.hid (fun w' => argMade_ok k n s w' hk hn)
  have HV := Lib.hid hv; clear hv
  have HT := Lib.hid ht; clear ht
  have hsh := fun b c w' h => short_one s b c w' h
  rw [decide_eq_true hz] at hsh
  have HS := Lib.hid hsh; clear hsh
  have HRd := Lib.hid (fun w' => read_any s w' (by omega))
  have hbig : ¬ (2147483647 : Int) < (s.size : Int) := by omega
  clear hk hn
  go_enter Tryz.func3, Tryz.ntmps3
  go_wp2_with fail
  refine (HM.out _).mono ?_
  rintro e w2 ⟨x, rfl, hx, hb2⟩
  have HX := Lib.hid hx; clear hx
  obtain ⟨xk, xn, xd, xt⟩ := x
  go_upto_region 4 with fail
  have hlx := lie_one w2 ⟨xk, xn, xd, xt⟩
  have hbx : Ext w (w2.alloc (.cells #[.int .i64 xk, .int .i64 xn, .int .i64 xd, .string xt, .slice none 0 0] 24)) := hb2.al _
  change Code.wp _ _ _ _ (w2.alloc (.cells #[.int .i64 xk, .int .i64 xn, .int .i64 xd, .string xt, .slice none 0 0] 24))
  generalize w2.heap.size = R at hlx ⊢
  generalize w2.alloc (.cells #[.int .i64 xk, .int .i64 xn, .int .i64 xd, .string xt, .slice none 0 0] 24) = wX at hlx hbx ⊢
  have HLX := Lib.hid hlx; clear hlx hb2
  go_cut [38] from 85 (fun s38 wx => ∃ q : Bool, s38 = .bool q ∧ (q = false → xk ≠ 6 ∧ (xk = 2 → wordT s = true)) ∧ Ext wX wx)
  case first =>
    obtain ⟨c0, c1, c2, c3, c4⟩ := HLX.out 0 ⟨xk, xn, xd, xt⟩ rfl
    simp only [Nat.zero_mul, Nat.add_zero, Nat.zero_add] at c0 c1 c2 c3 c4
    have hRl : R < wX.heap.size := lt_of_cell c0
    have hb6 : xk = 6 ∨ (xk == 6) = false := by
      by_cases h : xk = 6
      · exact Or.inl h
      · exact Or.inr (beq_eq_false_iff_ne.2 h)
    rcases hb6 with rfl | hb6
    · go_wp2_with fail
      refine (HS.out wX.heap.size 1 _ (World.cell?_alloc_at _ _ _ _ rfl)).mono ?_
      rintro e w1 ⟨rfl, hb1⟩
      (obtain ⟨hc1, hf1, hz1⟩ := ext_facts hb1; (try simp at hz1); (have hq1_0 : R < w1.heap.size := by omega); (have hl1_0 : R ≤ w1.heap.size := by omega); (have hr1_0 := fun o => hc1 (R) o (by first | omega | (simp; done) | (simp; omega))); (have hs1_0 := fun o => hf1 (R) o (by first | omega | (simp; done) | (simp; omega))); (try simp (disch := first | omega | (simp; omega)) only [World.cell?_alloc_past, World.cell?_drew] at hr1_0); (try simp (disch := first | omega | (simp; omega)) only [World.frozen?_alloc_past, World.frozen?_drew] at hs1_0); clear hc1 hf1)
      go_wp2_with fail
      go_meet
      exact ⟨true, rfl, fun h => (by cases h), (by repeat (first | with_reducible exact Below.refl _ _ | with_reducible assumption | ((with_reducible refine Below.setCell ?_ ?_ _); rotate_left; (simp; try omega)) | (with_reducible refine Ext.tr ?_ (by with_reducible assumption)) | (with_reducible refine Ext.al ?_ _) | (with_reducible refine below_drewN ?_ _) | (with_reducible refine Below.drew ?_)))⟩
    · have h6 : xk ≠ 6 := beq_eq_false_iff_ne.1 hb6
      have hb2 : xk = 2 ∨ (xk == 2) = false := by
        by_cases h : xk = 2
        · exact Or.inl h
        · exact Or.inr (beq_eq_false_iff_ne.2 h)
      rcases hb2 with rfl | hb2
      · clear hb6
        go_wp2_with fail
        refine (HS.out wX.heap.size 1 _ (World.cell?_alloc_at _ _ _ _ rfl)).mono ?_
        rintro e w1 ⟨rfl, hb1⟩
        (obtain ⟨hc1, hf1, hz1⟩ := ext_facts hb1; (try simp at hz1); (have hq1_0 : R < w1.heap.size := by omega); (have hl1_0 : R ≤ w1.heap.size := by omega); (have hr1_0 := fun o => hc1 (R) o (by first | omega | (simp; done) | (simp; omega))); (have hs1_0 := fun o => hf1 (R) o (by first | omega | (simp; done) | (simp; omega))); (try simp (disch := first | omega | (simp; omega)) only [World.cell?_alloc_past, World.cell?_drew] at hr1_0); (try simp (disch := first | omega | (simp; omega)) only [World.frozen?_alloc_past, World.frozen?_drew] at hs1_0); clear hc1 hf1)
        go_wp2_with fail
        refine (HRd.out _).mono ?_
        rintro e w3 ⟨y, rfl, hy, hb3⟩
        rcases hy with hy | ⟨rfl, hwd⟩
        · have hyk : (y.k != 4) = true := by
            rw [bne_iff_ne]
            rcases hy with h | h
            · rw [h]; decide
            · rw [h.1]; decide
          clear hy
          have hfld : ∀ w', (Instr.field 24 y.val 0).run Tryz.prog w' = .ok (.int .i64 y.k) w' := fun w' => rfl
          generalize y.k = yk at hyk hfld
          generalize y.val = V at hfld ⊢
          go_wp2_with fail
          go_meet
          exact ⟨true, rfl, fun h => (by cases h), (by repeat (first | with_reducible exact Below.refl _ _ | with_reducible assumption | ((with_reducible refine Below.setCell ?_ ?_ _); rotate_left; (simp; try omega)) | (with_reducible refine Ext.tr ?_ (by with_reducible assumption)) | (with_reducible refine Ext.al ?_ _) | (with_reducible refine below_drewN ?_ _) | (with_reducible refine Below.drew ?_)))⟩
        · have hfld : ∀ w', (Instr.field 24 (⟨4, 0, 0, valueT⟩ : Sc).val 0).run Tryz.prog w' = .ok (.int .i64 4) w' := fun w' => rfl
          generalize (⟨4, 0, 0, valueT⟩ : Sc).val = V at hfld ⊢
          go_wp2_with fail
          go_meet
          exact ⟨false, rfl, fun _ => ⟨h6, fun _ => hwd⟩, (by repeat (first | with_reducible exact Below.refl _ _ | with_reducible assumption | ((with_reducible refine Below.setCell ?_ ?_ _); rotate_left; (simp; try omega)) | (with_reducible refine Ext.tr ?_ (by with_reducible assumption)) | (with_reducible refine Ext.al ?_ _) | (with_reducible refine below_drewN ?_ _) | (with_reducible refine Below.drew ?_)))⟩
      · have h2 : xk ≠ 2 := beq_eq_false_iff_ne.1 hb2
        go_wp2_with fail
        refine (HS.out wX.heap.size 1 _ (World.cell?_alloc_at _ _ _ _ rfl)).mono ?_
        rintro e w1 ⟨rfl, hb1⟩
        (obtain ⟨hc1, hf1, hz1⟩ := ext_facts hb1; (try simp at hz1); (have hq1_0 : R < w1.heap.size := by omega); (have hl1_0 : R ≤ w1.heap.size := by omega); (have hr1_0 := fun o => hc1 (R) o (by first | omega | (simp; done) | (simp; omega))); (have hs1_0 := fun o => hf1 (R) o (by first | omega | (simp; done) | (simp; omega))); (try simp (disch := first | omega | (simp; omega)) only [World.cell?_alloc_past, World.cell?_drew] at hr1_0); (try simp (disch := first | omega | (simp; omega)) only [World.frozen?_alloc_past, World.frozen?_drew] at hs1_0); clear hc1 hf1)
        go_wp2_with fail
        go_meet
        exact ⟨false, rfl, fun _ => ⟨h6, fun h => absurd h h2⟩, (by repeat (first | with_reducible exact Below.refl _ _ | with_reducible assumption | ((with_reducible refine Below.setCell ?_ ?_ _); rotate_left; (simp; try omega)) | (with_reducible refine Ext.tr ?_ (by with_reducible assumption)) | (with_reducible refine Ext.al ?_ _) | (with_reducible refine below_drewN ?_ _) | (with_reducible refine Below.drew ?_)))⟩
  case rest =>
    obtain ⟨q, rfl, hq, hbc⟩ := hcut
    cases q
    · obtain ⟨h6, h2⟩ := hq rfl
      have hbw : Ext w wc := hbx.tr hbc
      obtain ⟨tn, tt, tl, tb, te, tr, ta, hT, hsum, hxor⟩ := one_made s ⟨xk, xn, xd, xt⟩ wc hz (HV.out.ext hbw) (HT.out.ext hbw) HX.out h6 h2
      obtain ⟨c0, c1, c2, c3, c4⟩ := (HLX.out.ext hbc) 0 ⟨xk, xn, xd, xt⟩ rfl
      simp only [Nat.zero_mul, Nat.add_zero, Nat.zero_add] at c0 c1 c2 c3 c4
      have hRl : R < wc.heap.size := lt_of_cell c0
      clear hq h6 h2 hbx hbc
      have HTO := Lib.hid hT; clear hT
      go_wp2_with fail
      have hll := lie_one wc ⟨xk, xn, xd, xt⟩
      have hbl : Ext wc (wc.alloc (.cells #[.int .i64 xk, .int .i64 xn, .int .i64 xd, .string xt, .slice none 0 0] 24)) := (Ext.rf wc).al _
      change Calls _ _ _ (wc.alloc (.cells #[.int .i64 xk, .int .i64 xn, .int .i64 xd, .string xt, .slice none 0 0] 24)) _
      generalize hL : wc.heap.size = L at hll ⊢
      generalize wc.alloc (.cells #[.int .i64 xk, .int .i64 xn, .int .i64 xd, .string xt, .slice none 0 0] 24) = wl at hll hbl ⊢
      have HLL := Lib.hid hll; clear hll hL
      have HWL := Lib.hid (hbw.tr hbl)
      have hwl : Ext wl wl := Ext.rf wl
      clear c0 c1 c2 c3 c4 hRl
      refine (HTO.out.num wl L 1 hbl HLL.out).mono ?_
      rintro e v1 ⟨rfl, hv1⟩
      go_wp2_with fail
      refine (HTO.out.txt v1 L 1 (hbl.tr hv1) (HLL.out.ext hv1)).mono ?_
      rintro e v2 ⟨rfl, hv2⟩
      have hw2 : Ext wl v2 := hv1.tr hv2
      go_wp2_with fail
      refine (HTO.out.log v2 L 1 (hbl.tr hw2) (HLL.out.ext hw2)).mono ?_
      rintro e v3 ⟨rfl, hv3⟩
      have hw3 : Ext wl v3 := hw2.tr hv3
      go_wp2_with fail
      refine (HTO.out.bla v3 L 1 (hbl.tr hw3) (HLL.out.ext hw3)).mono ?_
      rintro e v4 ⟨rfl, hv4⟩
      have hw4 : Ext wl v4 := hw3.tr hv4
      go_wp2_with fail
      refine (HTO.out.err v4 L 1 (hbl.tr hw4) (HLL.out.ext hw4)).mono ?_
      rintro e v5 ⟨rfl, hv5⟩
      have hw5 : Ext wl v5 := hw4.tr hv5
      have hsum' : (if tn = true then (1 : Int) else 0) + (if tt = true then 1 else 0) + (if tl = true then 1 else 0) + (if tb = true then 1 else 0) + (if te = true then 1 else 0) = 1 := hsum
      clear hsum hv1 hv2 hv3 hv4 hv5 hw2 hw3 hw4
      have j1 : 0 ≤ (if tn = true then (1 : Int) else 0) ∧ (if tn = true then (1 : Int) else 0) ≤ 1 := by split <;> omega
      have j2 : 0 ≤ (if tt = true then (1 : Int) else 0) ∧ (if tt = true then (1 : Int) else 0) ≤ 1 := by split <;> omega
      have j3 : 0 ≤ (if tl = true then (1 : Int) else 0) ∧ (if tl = true then (1 : Int) else 0) ≤ 1 := by split <;> omega
      have j4 : 0 ≤ (if tb = true then (1 : Int) else 0) ∧ (if tb = true then (1 : Int) else 0) ≤ 1 := by split <;> omega
      have j5 : 0 ≤ (if te = true then (1 : Int) else 0) ∧ (if te = true then (1 : Int) else 0) ≤ 1 := by split <;> omega
      generalize hi1 : (if tn = true then (1 : Int) else 0) = i1 at hsum' j1 ⊢
      generalize hi2 : (if tt = true then (1 : Int) else 0) = i2 at hsum' j2 ⊢
      generalize hi3 : (if tl = true then (1 : Int) else 0) = i3 at hsum' j3 ⊢
      generalize hi4 : (if tb = true then (1 : Int) else 0) = i4 at hsum' j4 ⊢
      generalize hi5 : (if te = true then (1 : Int) else 0) = i5 at hsum' j5 ⊢
      obtain ⟨j11, j12⟩ := j1; obtain ⟨j21, j22⟩ := j2; obtain ⟨j31, j32⟩ := j3; obtain ⟨j41, j42⟩ := j4; obtain ⟨j51, j52⟩ := j5
      go_wp2_with fail
      refine wp_loop_rounds 6 ?_
      rw [rounds_succ]
      go_wp2_with fail
      rw [rounds_succ]
      go_wp2_with fail
      rw [rounds_succ]
      go_wp2_with fail
      rw [rounds_succ]
      go_wp2_with fail
      rw [rounds_succ]
      go_wp2_with fail
      rw [rounds_succ]
      go_wp2_with fail
      have hcs : ∀ i v, (#[.int .i64 3, .int .i64 i1, .int .i64 0, .string ⟨#[]⟩, .slice none 0 0, .int .i64 3, .int .i64 i2, .int .i64 0, .string ⟨#[]⟩, .slice none 0 0, .int .i64 3, .int .i64 i3, .int .i64 0, .string ⟨#[]⟩, .slice none 0 0, .int .i64 3, .int .i64 i4, .int .i64 0, .string ⟨#[]⟩, .slice none 0 0, .int .i64 3, .int .i64 i5, .int .i64 0, .string ⟨#[]⟩, .slice none 0 0] : Array Value)[i]? = some v →
          (v5.alloc (.cells #[.int .i64 3, .int .i64 i1, .int .i64 0, .string ⟨#[]⟩, .slice none 0 0, .int .i64 3, .int .i64 i2, .int .i64 0, .string ⟨#[]⟩, .slice none 0 0, .int .i64 3, .int .i64 i3, .int .i64 0, .string ⟨#[]⟩, .slice none 0 0, .int .i64 3, .int .i64 i4, .int .i64 0, .string ⟨#[]⟩, .slice none 0 0, .int .i64 3, .int .i64 i5, .int .i64 0, .string ⟨#[]⟩, .slice none 0 0] 24)).cell? ⟨v5.heap.size, i, none⟩ = some v := fun i v hv => by
        rw [World.cell?_alloc_at _ _ _ _ rfl]; exact hv
      have d0 := hcs 20 _ rfl
      have d1 := hcs 21 _ rfl
      have d2 := hcs 22 _ rfl
      have d3 := hcs 23 _ rfl
      have d4 := hcs 24 _ rfl
      clear hcs
      have hw6 : Ext wl (v5.alloc (.cells #[.int .i64 3, .int .i64 i1, .int .i64 0, .string ⟨#[]⟩, .slice none 0 0, .int .i64 3, .int .i64 i2, .int .i64 0, .string ⟨#[]⟩, .slice none 0 0, .int .i64 3, .int .i64 i3, .int .i64 0, .string ⟨#[]⟩, .slice none 0 0, .int .i64 3, .int .i64 i4, .int .i64 0, .string ⟨#[]⟩, .slice none 0 0, .int .i64 3, .int .i64 i5, .int .i64 0, .string ⟨#[]⟩, .slice none 0 0] 24)) := hw5.al _
      change Code.wp _ _ _ _ (v5.alloc (.cells #[.int .i64 3, .int .i64 i1, .int .i64 0, .string ⟨#[]⟩, .slice none 0 0, .int .i64 3, .int .i64 i2, .int .i64 0, .string ⟨#[]⟩, .slice none 0 0, .int .i64 3, .int .i64 i3, .int .i64 0, .string ⟨#[]⟩, .slice none 0 0, .int .i64 3, .int .i64 i4, .int .i64 0, .string ⟨#[]⟩, .slice none 0 0, .int .i64 3, .int .i64 i5, .int .i64 0, .string ⟨#[]⟩, .slice none 0 0] 24))
      generalize hM : v5.heap.size = M at d0 d1 d2 d3 d4 ⊢
      generalize v5.alloc (.cells #[.int .i64 3, .int .i64 i1, .int .i64 0, .string ⟨#[]⟩, .slice none 0 0, .int .i64 3, .int .i64 i2, .int .i64 0, .string ⟨#[]⟩, .slice none 0 0, .int .i64 3, .int .i64 i3, .int .i64 0, .string ⟨#[]⟩, .slice none 0 0, .int .i64 3, .int .i64 i4, .int .i64 0, .string ⟨#[]⟩, .slice none 0 0, .int .i64 3, .int .i64 i5, .int .i64 0, .string ⟨#[]⟩, .slice none 0 0] 24) = wm at d0 d1 d2 d3 d4 hw6 ⊢
      clear hM hw5
      have hml : M < wm.heap.size := lt_of_cell d0
      have HE := Lib.hid (fun w' (hw : Ext wl w') => HTO.out.erx w' L 1 (hbl.tr hw) (HLL.out.ext hw))
      have HNa := Lib.hid (fun w' (hw : Ext wl w') => HTO.out.nav w' L 1 (hbl.tr hw) (HLL.out.ext hw))
      have hx5 : (logSc (tr != ta)).val = Sc.val ⟨3, i5, 0, ⟨#[]⟩⟩ := by rw [hxor, ← hi5]
      have HXo := Lib.hid (fun w' B' (h : Lie w' B' 0 [logSc tr, logSc ta]) => hx5 ▸ says_XOR tr ta B' 2 w' h)
      have HSm := Lib.hid (fun w' => same_truth i5 w')
      clear hx5 hi1 hi2 hi3 hi4 hi5 hsum' HTO hxor j11 j12 j21 j22 j31 j32 j41 j42 j51 j52
      go_region_held3 (fun w' => w'.cell? ⟨M, 20, none⟩ = some (.int .i64 3) ∧ w'.cell? ⟨M, 21, none⟩ = some (.int .i64 i5) ∧ w'.cell? ⟨M, 22, none⟩ = some (.int .i64 0) ∧
          w'.cell? ⟨M, 23, none⟩ = some (.string ⟨#[]⟩) ∧ w'.cell? ⟨M, 24, none⟩ = some (.slice none 0 0))
        (first | go_keep | (go_split_ands; exact ⟨Ext.get (by assumption) (by assumption), Ext.get (by assumption) (by assumption), Ext.get (by assumption) (by assumption), Ext.get (by assumption) (by assumption), Ext.get (by assumption) (by assumption)⟩))
        (first
          | (go_at_call 7; (with_reducible show Calls _ _ #[.func (.func 15) _ _, _] _ _); refine (HE.out _ ?hex).mono ?_; (case hex => repeat (first | with_reducible exact Below.refl _ _ | with_reducible assumption | ((with_reducible refine Below.setCell ?_ ?_ _); rotate_left; (simp; try omega)) | (with_reducible refine Ext.tr ?_ (by with_reducible assumption)) | (with_reducible refine Ext.al ?_ _) | (with_reducible refine below_drewN ?_ _) | (with_reducible refine Below.drew ?_))); rintro e w7 ⟨rfl, hb7⟩)
          | (go_at_call 7; (with_reducible show Calls _ _ #[.func (.func 16) _ _, _] _ _); refine (HNa.out _ ?hex).mono ?_; (case hex => repeat (first | with_reducible exact Below.refl _ _ | with_reducible assumption | ((with_reducible refine Below.setCell ?_ ?_ _); rotate_left; (simp; try omega)) | (with_reducible refine Ext.tr ?_ (by with_reducible assumption)) | (with_reducible refine Ext.al ?_ _) | (with_reducible refine below_drewN ?_ _) | (with_reducible refine Below.drew ?_))); rintro e w8 ⟨rfl, hb8⟩)
          | (go_at_call 7; (with_reducible show Calls _ _ #[.func (.func 14) _ _, _] _ _); refine (HXo.out _ _ (lie_two _ (logSc tr) (logSc ta))).mono ?_; rintro e w9 ⟨rfl, hb9⟩)
          | (go_at_call 13; refine (HSm.out _).mono ?_; rintro e w10 ⟨rfl, hb10⟩))
      have hfin := HWL.out
      go_wp2
      go_ret
      exact ⟨rfl, (by repeat (first | with_reducible exact Below.refl _ _ | with_reducible assumption | ((with_reducible refine Below.setCell ?_ ?_ _); rotate_left; (simp; try omega)) | (with_reducible refine Ext.tr ?_ (by with_reducible assumption)) | (with_reducible refine Ext.al ?_ _) | (with_reducible refine below_drewN ?_ _) | (with_reducible refine Below.drew ?_)))⟩
    · clear hq
      go_wp2_with fail
      go_ret
      exact ⟨rfl, hbx.tr hbc⟩

set_option maxHeartbeats 3200000 in
theorem FnErrors.law_of (k n : Int) (s : ByteArray) (w : World) (hk : 0 ≤ k ∧ k ≤ 255) (hn : -9223372036854775808 ≤ n ∧ n ≤ 9223372036854775807) (_ : s.size ≤ maxLen) (hv : SynAt w) (ht : TabsAt w) :
    Calls Tryz.prog 3 #[.int .u8 k, .int .i64 n, .string s] w fun e w' => e = .returned (.bool true) ∧ Below w.heap.size w w' := by
  by_cases hz : s.size ≤ 1000
  · exact law_small k n s w hk hn hz hv ht
  · by_cases hz2 : (2147483647 : Int) < (s.size : Int)
    · clear hv ht
      go_enter Tryz.func3, Tryz.ntmps3
      go_wp2
      go_ret
      exact ⟨rfl, (by repeat (first | with_reducible exact Below.refl _ _ | with_reducible assumption | ((with_reducible refine Below.setCell ?_ ?_ _); rotate_left; (simp; try omega)) | (with_reducible refine Ext.tr ?_ (by with_reducible assumption)) | (with_reducible refine Ext.al ?_ _) | (with_reducible refine below_drewN ?_ _) | (with_reducible refine Below.drew ?_)))⟩
    · have HM := Lib.hid (fun w' => argMade_ok k n s w' hk hn)
      have hsh := fun b c w' h => short_one s b c w' h
      rw [decide_eq_false hz] at hsh
      have HS := Lib.hid hsh; clear hsh
      clear hv ht hk hn
      go_enter Tryz.func3, Tryz.ntmps3
      go_wp2_with fail
      refine (HM.out _).mono ?_
      rintro e w2 ⟨x, rfl, hx, hb2⟩
      clear hx
      obtain ⟨xk, xn, xd, xt⟩ := x
      go_wp2_with fail
      refine (HS.out (w2.heap.size + 1) 1 _ (World.cell?_alloc_at _ _ _ _ (by simp))).mono ?_
      rintro e w1 ⟨rfl, hb1⟩
      go_wp2
      go_ret
      exact ⟨rfl, (by repeat (first | with_reducible exact Below.refl _ _ | with_reducible assumption | ((with_reducible refine Below.setCell ?_ ?_ _); rotate_left; (simp; try omega)) | (with_reducible refine Ext.tr ?_ (by with_reducible assumption)) | (with_reducible refine Ext.al ?_ _) | (with_reducible refine below_drewN ?_ _) | (with_reducible refine Below.drew ?_)))⟩
end Go.Proofs.YtlbhebmjdaaglaaGreatDoor
