/-
  The reference's members: what of arguments is taken together.
-/
import Derived.Test.YtpcfmkongpmmmaaGreatDoorSm
namespace Go.Proofs.YtpcfmkongpmmmaaGreatDoor
set_option linter.unusedSimpArgs false
set_option linter.unusedVariables false
open Go Go.RowKit
set_option maxRecDepth 100000

/-- A truth's number. -/
abbrev truSc (n : Int) : Sc := ⟨1, n, 1, ⟨#[]⟩⟩

/-- A single value as a number: what own says. -/
def ownOf (x : Sc) : Sc := if x.k = 1 then x else if x.k = 3 then truSc x.n else if x.k = 4 then x else ⟨6, 0, 0, ⟨#[]⟩⟩

set_option maxHeartbeats 800000 in
theorem own_ok (x : Sc) (w : World) (h3 : x.k = 3 → x.n = 0 ∨ x.n = 1) : Calls Tryz.prog 208 #[x.val] w (Gives w (.tuple #[(ownOf x).val, .bool (x.k == 1 || x.k == 3)])) := by
  obtain ⟨k, n, d, t⟩ := x
  by_cases k1 : k = 1
  · subst k1
    rw [show ownOf ⟨1, n, d, t⟩ = ⟨1, n, d, t⟩ from if_pos rfl]
    go_enter Tryz.func208, Tryz.ntmps208
    go_wp2
    exact bodyPost_ret (v := .tuple #[Sc.val ⟨1, n, d, t⟩, .bool true]) (by simp [results, Tryz.results208, go_sem, *]) rfl ⟨rfl, (by repeat (first | with_reducible exact Below.refl _ _ | with_reducible assumption | ((with_reducible refine Below.setCell ?_ ?_ _); rotate_left; (simp; try omega)) | (with_reducible refine Ext.tr ?_ (by with_reducible assumption)) | (with_reducible refine Ext.al ?_ _) | (with_reducible refine below_drewN ?_ _) | (with_reducible refine Below.drew ?_)))⟩
  · by_cases k3 : k = 3
    · subst k3
      have hn : n = 0 ∨ n = 1 := h3 rfl
      rw [show ownOf ⟨3, n, d, t⟩ = truSc n by unfold ownOf; rw [if_neg k1, if_pos rfl]]
      go_enter Tryz.func208, Tryz.ntmps208
      (go_wp2_with fail; refine (int_ok n _ (by omega) (by omega)).mono ?_; rintro e w1 ⟨rfl, hb1⟩; obtain ⟨hc1, hf1, hz1⟩ := ext_facts hb1; (try simp at hz1); (have hq1_0 : w.heap.size < w1.heap.size := by omega); (have hl1_0 : w.heap.size ≤ w1.heap.size := by omega); (have hr1_0 := fun o => hc1 (w.heap.size) o (by first | omega | (simp; done) | (simp; omega))); (have hs1_0 := fun o => hf1 (w.heap.size) o (by first | omega | (simp; done) | (simp; omega))); (try simp (disch := first | omega | (simp; omega)) only [World.cell?_alloc_past, World.cell?_drew] at hr1_0); (try simp (disch := first | omega | (simp; omega)) only [World.frozen?_alloc_past, World.frozen?_drew] at hs1_0); (have hq1_1 : w.heap.size + 1 < w1.heap.size := by omega); (have hl1_1 : w.heap.size + 1 ≤ w1.heap.size := by omega); (have hr1_1 := fun o => hc1 (w.heap.size + 1) o (by first | omega | (simp; done) | (simp; omega))); (have hs1_1 := fun o => hf1 (w.heap.size + 1) o (by first | omega | (simp; done) | (simp; omega))); (try simp (disch := first | omega | (simp; omega)) only [World.cell?_alloc_past, World.cell?_drew] at hr1_1); (try simp (disch := first | omega | (simp; omega)) only [World.frozen?_alloc_past, World.frozen?_drew] at hs1_1); clear hc1 hf1)
      go_wp2
      exact bodyPost_ret (v := .tuple #[(truSc n).val, .bool true]) (by simp [results, Tryz.results208, go_sem, *]) rfl ⟨rfl, (by repeat (first | with_reducible exact Below.refl _ _ | with_reducible assumption | ((with_reducible refine Below.setCell ?_ ?_ _); rotate_left; (simp; try omega)) | (with_reducible refine Ext.tr ?_ (by with_reducible assumption)) | (with_reducible refine Ext.al ?_ _) | (with_reducible refine below_drewN ?_ _) | (with_reducible refine Below.drew ?_)))⟩
    · by_cases k4 : k = 4
      · subst k4
        rw [show ownOf ⟨4, n, d, t⟩ = ⟨4, n, d, t⟩ by unfold ownOf; rw [if_neg k1, if_neg k3, if_pos rfl]]
        go_enter Tryz.func208, Tryz.ntmps208
        go_wp2
        exact bodyPost_ret (v := .tuple #[Sc.val ⟨4, n, d, t⟩, .bool false]) (by simp [results, Tryz.results208, go_sem, *]) rfl ⟨rfl, (by repeat (first | with_reducible exact Below.refl _ _ | with_reducible assumption | ((with_reducible refine Below.setCell ?_ ?_ _); rotate_left; (simp; try omega)) | (with_reducible refine Ext.tr ?_ (by with_reducible assumption)) | (with_reducible refine Ext.al ?_ _) | (with_reducible refine below_drewN ?_ _) | (with_reducible refine Below.drew ?_)))⟩
      · rw [show ownOf ⟨k, n, d, t⟩ = ⟨6, 0, 0, ⟨#[]⟩⟩ by unfold ownOf; rw [if_neg k1, if_neg k3, if_neg k4]]
        have e1 : (k == 1) = false := beq_eq_false_iff_ne.2 k1
        have e3 : (k == 3) = false := beq_eq_false_iff_ne.2 k3
        have e4 : (k == 4) = false := beq_eq_false_iff_ne.2 k4
        rw [show ((⟨k, n, d, t⟩ : Sc).k == 1 || (⟨k, n, d, t⟩ : Sc).k == 3) = false by simp [k1, k3]]
        go_enter Tryz.func208, Tryz.ntmps208
        (go_wp2_with fail; refine (doubt_any _).mono ?_; rintro e w1 ⟨rfl, hb1⟩; obtain ⟨hc1, hf1, hz1⟩ := ext_facts hb1; (try simp at hz1); (have hq1_0 : w.heap.size < w1.heap.size := by omega); (have hl1_0 : w.heap.size ≤ w1.heap.size := by omega); (have hr1_0 := fun o => hc1 (w.heap.size) o (by first | omega | (simp; done) | (simp; omega))); (have hs1_0 := fun o => hf1 (w.heap.size) o (by first | omega | (simp; done) | (simp; omega))); (try simp (disch := first | omega | (simp; omega)) only [World.cell?_alloc_past, World.cell?_drew] at hr1_0); (try simp (disch := first | omega | (simp; omega)) only [World.frozen?_alloc_past, World.frozen?_drew] at hs1_0); (have hq1_1 : w.heap.size + 1 < w1.heap.size := by omega); (have hl1_1 : w.heap.size + 1 ≤ w1.heap.size := by omega); (have hr1_1 := fun o => hc1 (w.heap.size + 1) o (by first | omega | (simp; done) | (simp; omega))); (have hs1_1 := fun o => hf1 (w.heap.size + 1) o (by first | omega | (simp; done) | (simp; omega))); (try simp (disch := first | omega | (simp; omega)) only [World.cell?_alloc_past, World.cell?_drew] at hr1_1); (try simp (disch := first | omega | (simp; omega)) only [World.frozen?_alloc_past, World.frozen?_drew] at hs1_1); clear hc1 hf1)
        go_wp2
        exact bodyPost_ret (v := .tuple #[unsure, .bool false]) (by simp [results, Tryz.results208, go_sem, *]) rfl ⟨rfl, (by repeat (first | with_reducible exact Below.refl _ _ | with_reducible assumption | ((with_reducible refine Below.setCell ?_ ?_ _); rotate_left; (simp; try omega)) | (with_reducible refine Ext.tr ?_ (by with_reducible assumption)) | (with_reducible refine Ext.al ?_ _) | (with_reducible refine below_drewN ?_ _) | (with_reducible refine Below.drew ?_)))⟩

/-- The kinds of a list in memory. -/
def KindsAt (w : World) (b : Nat) (l : List Int) : Prop := ∀ i n, l[i]? = some n → w.cell? ⟨b, i, none⟩ = some (.int .i64 n)

theorem KindsAt.ext {w w' : World} {b : Nat} {l : List Int} (h : KindsAt w b l) (hb : Ext w w') : KindsAt w' b l := fun i n hi => hb.get (h i n hi)

set_option maxHeartbeats 800000 in
/-- kinds: of what is no matrix. -/
theorem kinds_single (x : Sc) (a : Option Addr) (n c : Nat) (w : World) (h : x.k ≠ 5) : Calls Tryz.prog 71 #[x.val, .slice a n c] w (Gives w (.bool false)) := by
  obtain ⟨k, nn, d, t⟩ := x
  have e : (k != 5) = true := bne_iff_ne.2 h
  go_enter Tryz.func71, Tryz.ntmps71
  go_wp2
  go_ret
  exact ⟨rfl, (by repeat (first | with_reducible exact Below.refl _ _ | with_reducible assumption | ((with_reducible refine Below.setCell ?_ ?_ _); rotate_left; (simp; try omega)) | (with_reducible refine Ext.tr ?_ (by with_reducible assumption)) | (with_reducible refine Ext.al ?_ _) | (with_reducible refine below_drewN ?_ _) | (with_reducible refine Below.drew ?_)))⟩

set_option maxHeartbeats 3200000 in
/-- kinds: whether all values of a matrix are of some kinds. -/
theorem kinds_ok (m : Mc) (rows : List (List Sc)) (l : List Int) (b c : Nat) (w : World) (hm : m.k = 5) (hr : RowsOk w m rows) (zs : List Sc) (hz : rows.flatten = zs) (hne : zs ≠ []) (hN : zs.length ≤ 1000000000) (hl : l.length ≤ 100) (hk : KindsAt w b l) :
    Calls Tryz.prog 71 #[m.val, .slice (some ⟨b, 0, none⟩) l.length c] w (Gives w (.bool (zs.all fun x => l.any fun n => x.k == n))) := by
  obtain ⟨mk, mn, md, mt, ra, rl, rc⟩ := m
  simp only at hm
  subst hm
  have HR := Lib.hid hr; clear hr
  have HNE := Lib.hid hne; clear hne
  have HK := Lib.hid hk; clear hk
  have HZ := Lib.hid hz; clear hz
  go_enter Tryz.func71, Tryz.ntmps71
  have hb0 : Ext w ((w.alloc (.cells #[.int .i64 5, .int .i64 mn, .int .i64 md, .string mt, .slice ra rl rc] 28)).alloc (.cells #[.int .i64 5, .int .i64 mn, .int .i64 md, .string mt, .slice ra rl rc] 28)) := ((Ext.rf _).al _).al _
  go_wp2_with fail
  refine (flat_gen [(⟨5, mn, md, mt, ra, rl, rc⟩, rows)] (w.heap.size + 1) 0 1 _ (by simp) (one_m _ _ (by simp) ⟨5, mn, md, mt, ra, rl, rc⟩ rows (HR.out.ext ((Ext.rf _).al _)) _) (by rw [List.flatMap_singleton, show outOf (⟨5, mn, md, mt, ra, rl, rc⟩, rows) = rows.flatten from if_pos rfl, HZ.out]; omega)).mono ?_
  rintro e w1 ⟨v, rfl, hown, hb⟩
  rw [List.flatMap_singleton, show outOf (⟨5, mn, md, mt, ra, rl, rc⟩, rows) = rows.flatten from if_pos rfl, HZ.out] at hown
  obtain ⟨g, cap, rfl, hg, hlie⟩ := hown.lie HNE.out
  have HL := Lib.hid hlie; clear hlie hown
  have hb1 := hb0.tr hb
  have HK1 := Lib.hid (HK.out.ext hb1)
  clear hb hb0 HR
  clear HNE HK HZ
  go_wp2
  go_loopw [6, 7, 8] (fun i _ _ wr => ∃ k : Nat, k ≤ zs.length ∧ i = .int .i64 k ∧ Ext w1 wr ∧ (zs.take k).all (fun x => l.any fun n => x.k == n) = true) (fun i _ _ _ => zs.length - (intOf i).toNat)
  case atStart => exact ⟨0, Nat.zero_le _, rfl, Ext.rf _, rfl⟩
  case round =>
    obtain ⟨k, hk, rfl, hb2, hall⟩ := hrel
    have HA := Lib.hid hall; clear hall
    by_cases hlt : k < zs.length
    · obtain ⟨x, Hx⟩ := elem_at hlt
      obtain ⟨c0, c1, c2, c3, c4⟩ := (HL.out.ext hb2).head Hx.out
      clear c1 c2 c3 c4
      go_wp2
      go_loopw [7, 8] (fun r i wq => ∃ j : Nat, j ≤ l.length ∧ i = .int .i64 j ∧ Ext w1 wq ∧ r = .bool ((l.take j).any fun n => x.k == n)) (fun _ i _ => l.length - (intOf i).toNat)
      case atStart => exact ⟨0, Nat.zero_le _, rfl, hb2, rfl⟩
      case round =>
        obtain ⟨j, hj, rfl, hb3, rfl⟩ := hrel
        by_cases hjlt : j < l.length
        · obtain ⟨n, Hn⟩ := elem_at hjlt
          have d0 := HK1.out.ext hb3 j n Hn.out
          have e0 := ((HL.out.ext hb3).head Hx.out).1
          have hstep := any_take_succ Hn (fun n => x.k == n)
          have HS := Lib.hid hstep; clear hstep
          cases hr : (l.take j).any fun n => x.k == n
          · have HRR := Lib.hid hr; clear hr
            cases hq : (x.k == n)
            all_goals
              have HQ := Lib.hid hq
              go_wp2
              go_region
              all_goals
                go_wp2
                go_roundw
                case rel => exact ⟨j + 1, by omega, by go_num, (by repeat (first | with_reducible exact Below.refl _ _ | with_reducible assumption | ((with_reducible refine Below.setCell ?_ ?_ _); rotate_left; (simp; try omega)) | (with_reducible refine Ext.tr ?_ (by with_reducible assumption)) | (with_reducible refine Ext.al ?_ _) | (with_reducible refine below_drewN ?_ _) | (with_reducible refine Below.drew ?_))), by rw [HS.out, HRR.out, HQ.out]; rfl⟩
                case measure => simp [intOf]; omega
          · have HRR := Lib.hid hr; clear hr
            go_wp2
            go_region
            all_goals
              go_wp2
              go_roundw
              case rel => exact ⟨j + 1, by omega, by go_num, (by repeat (first | with_reducible exact Below.refl _ _ | with_reducible assumption | ((with_reducible refine Below.setCell ?_ ?_ _); rotate_left; (simp; try omega)) | (with_reducible refine Ext.tr ?_ (by with_reducible assumption)) | (with_reducible refine Ext.al ?_ _) | (with_reducible refine below_drewN ?_ _) | (with_reducible refine Below.drew ?_))), by rw [HS.out, HRR.out]; rfl⟩
              case measure => simp [intOf]; omega
        · have hfull : (l.take j) = l := List.take_of_length_le (by omega)
          rw [hfull]
          cases hr : l.any fun n => x.k == n
          · have HRR := Lib.hid hr; clear hr
            go_wp2
            go_ret
            refine ⟨?_, (by repeat (first | with_reducible exact Below.refl _ _ | with_reducible assumption | ((with_reducible refine Below.setCell ?_ ?_ _); rotate_left; (simp; try omega)) | (with_reducible refine Ext.tr ?_ (by with_reducible assumption)) | (with_reducible refine Ext.al ?_ _) | (with_reducible refine below_drewN ?_ _) | (with_reducible refine Below.drew ?_)))⟩
            have : zs.all (fun x => l.any fun n => x.k == n) = false := List.all_eq_false.2 ⟨x, mem_at Hx, by rw [HRR.out]; simp⟩
            rw [this]; rfl
          · have HRR := Lib.hid hr; clear hr
            go_wp2
            go_roundw
            case rel => exact ⟨k + 1, by omega, by go_num, (by repeat (first | with_reducible exact Below.refl _ _ | with_reducible assumption | ((with_reducible refine Below.setCell ?_ ?_ _); rotate_left; (simp; try omega)) | (with_reducible refine Ext.tr ?_ (by with_reducible assumption)) | (with_reducible refine Ext.al ?_ _) | (with_reducible refine below_drewN ?_ _) | (with_reducible refine Below.drew ?_))), by rw [take_succ_at Hx, List.all_append, HA.out]; simp [HRR.out]⟩
            case measure => simp [intOf]; omega
    · go_wp2
      go_ret
      refine ⟨?_, (by repeat (first | with_reducible exact Below.refl _ _ | with_reducible assumption | ((with_reducible refine Below.setCell ?_ ?_ _); rotate_left; (simp; try omega)) | (with_reducible refine Ext.tr ?_ (by with_reducible assumption)) | (with_reducible refine Ext.al ?_ _) | (with_reducible refine below_drewN ?_ _) | (with_reducible refine Below.drew ?_)))⟩
      have := HA.out
      rw [List.take_of_length_le (by omega)] at this
      rw [this]; rfl
end Go.Proofs.YtpcfmkongpmmmaaGreatDoor
