/-
  Contracts of the reference's functions on single values.
-/
import Derived.Test.YtpcfmkongpmmmaaGreatDoorB
namespace Go.Proofs.YtpcfmkongpmmmaaGreatDoor
set_option linter.unusedSimpArgs false
set_option linter.unusedVariables false
open Go Go.RowKit
set_option maxRecDepth 100000

set_option maxHeartbeats 400000 in
theorem asNumber_num (k n d : Int) (t : ByteArray) (w : World) (hk : k = 1 ∨ k = 4) : Calls Tryz.prog 132 #[.agg #[.int .i64 k, .int .i64 n, .int .i64 d, .string t, .slice none 0 0]] w (Gives w (.agg #[.int .i64 k, .int .i64 n, .int .i64 d, .string t, .slice none 0 0])) := by
  rcases hk with rfl | rfl
  all_goals
    go_enter Tryz.func132, Tryz.ntmps132
    go_wp2
    exact bodyPost_ret (v := .agg #[.int .i64 _, .int .i64 n, .int .i64 d, .string t, .slice none 0 0]) (by simp [results, Tryz.results132, go_sem, *]) rfl ⟨rfl, (by repeat (first | with_reducible exact Below.refl _ _ | with_reducible assumption | ((with_reducible refine Below.setCell ?_ ?_ _); rotate_left; (simp; try omega)) | (with_reducible refine Ext.tr ?_ (by with_reducible assumption)) | (with_reducible refine Ext.al ?_ _) | (with_reducible refine below_drewN ?_ _) | (with_reducible refine Below.drew ?_)))⟩

set_option maxHeartbeats 400000 in
theorem numeric_num (n d : Int) (t : ByteArray) (w : World) : Calls Tryz.prog 126 #[.agg #[.int .i64 1, .int .i64 n, .int .i64 d, .string t, .slice none 0 0]] w (Gives w (.bool true)) := by
  go_enter Tryz.func126, Tryz.ntmps126
  go_wp2
  go_ret
  exact ⟨rfl, (by repeat (first | with_reducible exact Below.refl _ _ | with_reducible assumption | ((with_reducible refine Below.setCell ?_ ?_ _); rotate_left; (simp; try omega)) | (with_reducible refine Ext.tr ?_ (by with_reducible assumption)) | (with_reducible refine Ext.al ?_ _) | (with_reducible refine below_drewN ?_ _) | (with_reducible refine Below.drew ?_)))⟩

set_option maxHeartbeats 400000 in
theorem numeric_not (k n d : Int) (t : ByteArray) (w : World) (hk : k = 0 ∨ k = 4 ∨ k = 5 ∨ k = 6) : Calls Tryz.prog 126 #[.agg #[.int .i64 k, .int .i64 n, .int .i64 d, .string t, .slice none 0 0]] w (Gives w (.bool false)) := by
  rcases hk with rfl | rfl | rfl | rfl
  all_goals
    go_enter Tryz.func126, Tryz.ntmps126
    go_wp2
    go_ret
    exact ⟨rfl, (by repeat (first | with_reducible exact Below.refl _ _ | with_reducible assumption | ((with_reducible refine Below.setCell ?_ ?_ _); rotate_left; (simp; try omega)) | (with_reducible refine Ext.tr ?_ (by with_reducible assumption)) | (with_reducible refine Ext.al ?_ _) | (with_reducible refine below_drewN ?_ _) | (with_reducible refine Below.drew ?_)))⟩

set_option maxHeartbeats 400000 in
theorem isWhole_any (k n d : Int) (t : ByteArray) (w : World) : Calls Tryz.prog 151 #[.agg #[.int .i64 k, .int .i64 n, .int .i64 d, .string t, .slice none 0 0]] w (Gives w (.bool (k == 1 && d == 1))) := by
  by_cases hk : k = 1
  · subst hk
    go_enter Tryz.func151, Tryz.ntmps151
    go_wp2
    go_ret
    exact ⟨by simp, (by repeat (first | with_reducible exact Below.refl _ _ | with_reducible assumption | ((with_reducible refine Below.setCell ?_ ?_ _); rotate_left; (simp; try omega)) | (with_reducible refine Ext.tr ?_ (by with_reducible assumption)) | (with_reducible refine Ext.al ?_ _) | (with_reducible refine below_drewN ?_ _) | (with_reducible refine Below.drew ?_)))⟩
  · have hk' : (k == 1) = false := beq_eq_false_iff_ne.2 hk
    go_enter Tryz.func151, Tryz.ntmps151
    go_wp2
    go_ret
    exact ⟨by simp [hk'], (by repeat (first | with_reducible exact Below.refl _ _ | with_reducible assumption | ((with_reducible refine Below.setCell ?_ ?_ _); rotate_left; (simp; try omega)) | (with_reducible refine Ext.tr ?_ (by with_reducible assumption)) | (with_reducible refine Ext.al ?_ _) | (with_reducible refine below_drewN ?_ _) | (with_reducible refine Below.drew ?_)))⟩

set_option maxHeartbeats 400000 in
theorem table_any (a : Option Addr) (n c : Nat) (w : World) : Calls Tryz.prog 12 #[.slice a n c] w (Gives w (.agg #[.int .i64 5, .int .i64 0, .int .i64 0, .string ⟨#[]⟩, .slice a n c])) := by
  go_enter Tryz.func12, Tryz.ntmps12
  go_wp2
  exact bodyPost_ret (v := .agg #[.int .i64 5, .int .i64 0, .int .i64 0, .string ⟨#[]⟩, .slice a n c]) (by simp [results, Tryz.results12, go_sem, *]) rfl ⟨rfl, (by repeat (first | with_reducible exact Below.refl _ _ | with_reducible assumption | ((with_reducible refine Below.setCell ?_ ?_ _); rotate_left; (simp; try omega)) | (with_reducible refine Ext.tr ?_ (by with_reducible assumption)) | (with_reducible refine Ext.al ?_ _) | (with_reducible refine below_drewN ?_ _) | (with_reducible refine Below.drew ?_)))⟩

set_option maxHeartbeats 400000 in
theorem str_any (t : ByteArray) (w : World) : Calls Tryz.prog 29 #[.string t] w (Gives w (.agg #[.int .i64 2, .int .i64 0, .int .i64 0, .string t, .slice none 0 0])) := by
  go_enter Tryz.func29, Tryz.ntmps29
  go_wp2
  exact bodyPost_ret (v := .agg #[.int .i64 2, .int .i64 0, .int .i64 0, .string t, .slice none 0 0]) (by simp [results, Tryz.results29, go_sem, *]) rfl ⟨rfl, (by repeat (first | with_reducible exact Below.refl _ _ | with_reducible assumption | ((with_reducible refine Below.setCell ?_ ?_ _); rotate_left; (simp; try omega)) | (with_reducible refine Ext.tr ?_ (by with_reducible assumption)) | (with_reducible refine Ext.al ?_ _) | (with_reducible refine below_drewN ?_ _) | (with_reducible refine Below.drew ?_)))⟩

set_option maxHeartbeats 400000 in
theorem err_any (t : ByteArray) (w : World) : Calls Tryz.prog 31 #[.string t] w (Gives w (errv t)) := by
  go_enter Tryz.func31, Tryz.ntmps31
  go_wp2
  exact bodyPost_ret (v := errv t) (by simp [results, Tryz.results31, go_sem, *]) rfl ⟨rfl, (by repeat (first | with_reducible exact Below.refl _ _ | with_reducible assumption | ((with_reducible refine Below.setCell ?_ ?_ _); rotate_left; (simp; try omega)) | (with_reducible refine Ext.tr ?_ (by with_reducible assumption)) | (with_reducible refine Ext.al ?_ _) | (with_reducible refine below_drewN ?_ _) | (with_reducible refine Below.drew ?_)))⟩

set_option maxHeartbeats 400000 in
theorem bool_any (b : Bool) (w : World) : Calls Tryz.prog 30 #[.bool b] w (Gives w (.agg #[.int .i64 3, .int .i64 (if b then 1 else 0), .int .i64 0, .string ⟨#[]⟩, .slice none 0 0])) := by
  cases b
  all_goals
    go_enter Tryz.func30, Tryz.ntmps30
    go_wp2
  · exact bodyPost_ret (v := .agg #[.int .i64 3, .int .i64 0, .int .i64 0, .string ⟨#[]⟩, .slice none 0 0]) (by simp [results, Tryz.results30, go_sem, *]) rfl ⟨rfl, (by repeat (first | with_reducible exact Below.refl _ _ | with_reducible assumption | ((with_reducible refine Below.setCell ?_ ?_ _); rotate_left; (simp; try omega)) | (with_reducible refine Ext.tr ?_ (by with_reducible assumption)) | (with_reducible refine Ext.al ?_ _) | (with_reducible refine below_drewN ?_ _) | (with_reducible refine Below.drew ?_)))⟩
  · exact bodyPost_ret (v := .agg #[.int .i64 3, .int .i64 1, .int .i64 0, .string ⟨#[]⟩, .slice none 0 0]) (by simp [results, Tryz.results30, go_sem, *]) rfl ⟨rfl, (by repeat (first | with_reducible exact Below.refl _ _ | with_reducible assumption | ((with_reducible refine Below.setCell ?_ ?_ _); rotate_left; (simp; try omega)) | (with_reducible refine Ext.tr ?_ (by with_reducible assumption)) | (with_reducible refine Ext.al ?_ _) | (with_reducible refine below_drewN ?_ _) | (with_reducible refine Below.drew ?_)))⟩

set_option maxHeartbeats 400000 in
/-- every: a predicate p of the values, by its contract. -/
theorem every_ok (p : Sc → Bool) (xs : List Sc) (b o c : Nat) (w : World) (hl : xs.length ≤ 1000000000) (hx : Lie w b o xs)
    (fid : Nat) (hent : ∀ (args : Array Value) (w : World), (callFunc fid args).run Tryz.prog w = .ok (.enter fid args) w)
    (hp : ∀ x w', x ∈ xs → Ext w w' → Calls Tryz.prog fid #[x.val] w' (Gives w' (.bool (p x)))) :
    Calls Tryz.prog 125 #[.slice (some ⟨b, o, none⟩) xs.length c, .func (.func fid) #[] #[]] w (Gives w (.bool (xs.all p))) := by
  have HX := Lib.hid hx; clear hx
  have HP := Lib.hid hp; clear hp
  go_enter Tryz.func125, Tryz.ntmps125
  go_wp2
  go_loopw [5] (fun i wr => ∃ k : Nat, k ≤ xs.length ∧ i = .int .i64 k ∧ Ext w wr ∧ (xs.take k).all p = true) (fun i _ => xs.length - (intOf i).toNat)
  case atStart => exact ⟨0, Nat.zero_le _, rfl, Below.refl _ _, rfl⟩
  case round =>
    obtain ⟨k, hk, rfl, hb, hall⟩ := hrel
    have HA := Lib.hid hall; clear hall
    by_cases hlt : k < xs.length
    · obtain ⟨x, Hx⟩ := elem_at hlt
      obtain ⟨c0, c1, c2, c3, c4⟩ := (HX.out.ext hb) k x Hx.out
      cases hpx : p x
      · have hcall := HP.out x wr (mem_at Hx) hb
        rw [hpx] at hcall
        have HC := Lib.hid hcall; clear hcall
        have HPX := Lib.hid hpx; clear hpx
        go_wp2_with fail
        refine (HC.out).mono ?_
        rintro e w1 ⟨rfl, hb1⟩
        go_wp2
        go_ret
        refine ⟨?_, hb.tr hb1⟩
        have : xs.all p = false := by
          rw [List.all_eq_false]; exact ⟨x, mem_at Hx, by rw [HPX.out]; simp⟩
        rw [this]; rfl
      · have hcall := HP.out x wr (mem_at Hx) hb
        rw [hpx] at hcall
        have HC := Lib.hid hcall; clear hcall
        have HPX := Lib.hid hpx; clear hpx
        go_wp2_with fail
        refine (HC.out).mono ?_
        rintro e w1 ⟨rfl, hb1⟩
        go_wp2
        go_roundw
        case rel => exact ⟨k + 1, by omega, by go_num, hb.tr hb1, by rw [take_succ_at Hx, List.all_append, HA.out]; simp [HPX.out]⟩
        case measure => simp [intOf]; omega
    · go_wp2
      go_ret
      refine ⟨?_, hb⟩
      have := HA.out
      rw [List.take_of_length_le (by omega)] at this
      rw [this]; rfl
end Go.Proofs.YtpcfmkongpmmmaaGreatDoor
