/-
  doubtful, First, numbers, wholes.
-/
import Derived.Test.YtpcfmkongpmmmaaGreatDoorD
namespace Go.Proofs.YtpcfmkongpmmmaaGreatDoor
set_option linter.unusedSimpArgs false
set_option linter.unusedVariables false
open Go Go.RowKit
set_option maxRecDepth 100000

theorem RowsOk.ext {w w' : World} {x : Mc} {rows : List (List Sc)} (h : RowsOk w x rows) (hb : Ext w w') : RowsOk w' x rows :=
  ⟨h.1, fun h5 => ⟨(h.2 h5).1, (h.2 h5).2.1, fun i row hr => ⟨((h.2 h5).2.2 i row hr).1, by
    obtain ⟨b, o, sa, sn, sc, h1, h2, h3⟩ := ((h.2 h5).2.2 i row hr).2
    exact ⟨b, o, sa, sn, sc, h1, hb.get h2, fun w2 hb2 => h3 w2 (hb.tr hb2)⟩⟩⟩⟩

theorem RowsOk.scalar (w : World) (x : Sc) (h : x.k ≠ 5) : RowsOk w ⟨x.k, x.n, x.d, x.t, none, 0, 0⟩ [] := ⟨fun _ => ⟨rfl, rfl, rfl⟩, fun h5 => absurd h5 h⟩

theorem one_m (w : World) (n : Nat) (hn : n = w.heap.size) (x : Mc) (rows : List (List Sc)) (hr : RowsOk w x rows) (t : TypeId) :
    ∀ i y, [(x, rows)][i]? = some y → At5m (w.alloc (.cells #[.int .i64 x.k, .int .i64 x.n, .int .i64 x.d, .string x.t, .slice x.ra x.rl x.rc] t)) n (0 + i * 5) y.1 ∧
      RowsOk (w.alloc (.cells #[.int .i64 x.k, .int .i64 x.n, .int .i64 x.d, .string x.t, .slice x.ra x.rl x.rc] t)) y.1 y.2 := by
  intro i y hy
  cases i with
  | zero =>
    have e : (x, rows) = y := by simpa using hy
    subst e; subst hn
    exact ⟨⟨World.cell?_alloc_at _ _ _ _ rfl, World.cell?_alloc_at _ _ _ _ rfl, World.cell?_alloc_at _ _ _ _ rfl, World.cell?_alloc_at _ _ _ _ rfl, World.cell?_alloc_at _ _ _ _ rfl⟩, hr.ext ((Ext.rf _).al _)⟩
  | succ i => simp at hy

theorem any_take_succ {α : Type} {xs : List α} {k : Nat} {x : α} (h : Hid (xs[k]? = some x)) (p : α → Bool) : (xs.take (k + 1)).any p = ((xs.take k).any p || p x) := by
  rw [take_succ_at h, List.any_append]; simp

set_option maxHeartbeats 800000 in
theorem doubtful_gen (x : Mc) (rows : List (List Sc)) (w : World) (hr : RowsOk w x rows) (zs : List Sc) (hz : outOf (x, rows) = zs) (hne : zs ≠ []) (hN : zs.length ≤ 1000000000) :
    Calls Tryz.prog 11 #[.agg #[.int .i64 x.k, .int .i64 x.n, .int .i64 x.d, .string x.t, .slice x.ra x.rl x.rc]] w (Gives w (.bool (zs.any fun y => y.k == 6))) := by
  have HR := Lib.hid hr; clear hr
  have HNE := Lib.hid hne; clear hne
  have HZ := Lib.hid hz; clear hz
  go_enter Tryz.func11, Tryz.ntmps11
  have hb0 : Ext w ((w.alloc (.cells #[.int .i64 x.k, .int .i64 x.n, .int .i64 x.d, .string x.t, .slice x.ra x.rl x.rc] 28)).alloc (.cells #[.int .i64 x.k, .int .i64 x.n, .int .i64 x.d, .string x.t, .slice x.ra x.rl x.rc] 28)) := ((Ext.rf _).al _).al _
  go_wp2_with fail
  refine (flat_gen [(x, rows)] (w.heap.size + 1) 0 1 _ (by simp) (one_m _ _ (by simp) x rows (HR.out.ext ((Ext.rf _).al _)) _) (by rw [List.flatMap_singleton, HZ.out]; omega)).mono ?_
  rintro e w1 ⟨v, rfl, hown, hb⟩
  rw [List.flatMap_singleton, HZ.out] at hown
  obtain ⟨g, cap, rfl, hg, hlie⟩ := hown.lie HNE.out
  have HL := Lib.hid hlie; clear hlie hown
  have hb1 := hb0.tr hb
  clear hb hb0
  go_wp2
  go_loop [4] (fun i => ∃ k : Nat, k ≤ zs.length ∧ i = .int .i64 k ∧ (zs.take k).any (fun y => y.k == 6) = false) (fun i => zs.length - (intOf i).toNat)
  case atStart => exact ⟨0, Nat.zero_le _, rfl, rfl⟩
  case round =>
    obtain ⟨k, hk, rfl, hall⟩ := hrel
    have HA := Lib.hid hall; clear hall
    by_cases hlt : k < zs.length
    · obtain ⟨y, Hy⟩ := elem_at hlt
      obtain ⟨c0, c1, c2, c3, c4⟩ := HL.out.head Hy.out
      clear c1 c2 c3 c4
      have hn := any_take_succ Hy (fun y => y.k == 6)
      have HN2 := Lib.hid hn; clear hn
      cases h6 : (y.k == 6)
      · go_wp2
        have h6' := Lib.hid h6; clear h6
        go_round
        case rel => exact ⟨k + 1, by omega, by go_num, by rw [HN2.out, HA.out]; exact h6'.out⟩
        case measure => simp [intOf]; omega
      · go_wp2
        go_ret
        refine ⟨?_, hb1⟩
        have : zs.any (fun y => y.k == 6) = true := List.any_eq_true.2 ⟨y, mem_at Hy, h6⟩
        rw [this]; rfl
    · go_wp2
      go_ret
      refine ⟨?_, hb1⟩
      have := HA.out
      rw [List.take_of_length_le (by omega)] at this
      rw [this]; rfl

/-- The zero value. -/
abbrev zeroVal : Value := .agg #[.int .i64 0, .int .i64 0, .int .i64 0, .string ⟨#[]⟩, .slice none 0 0]

set_option maxHeartbeats 800000 in
/-- First: no error and nothing unsure among single values. -/
theorem first_none (xs : List Sc) (b o c : Nat) (w : World) (hl : xs.length ≤ 1000000000) (hx : Lie w b o xs) (hne : xs ≠ []) (hk : ∀ x ∈ xs, x.k ≠ 4 ∧ x.k ≠ 5 ∧ x.k ≠ 6) :
    Calls Tryz.prog 185 #[.slice (some ⟨b, o, none⟩) xs.length c] w (Gives w (.tuple #[zeroVal, .bool false])) := by
  have HX := Lib.hid hx; clear hx
  have HK := Lib.hid hk; clear hk
  have HNE := Lib.hid hne; clear hne
  go_enter Tryz.func185, Tryz.ntmps185
  go_wp2_with fail
  refine (flat_scalars xs b o c _ hl (HX.out.ext ((Ext.rf _).al _)) (fun x h => (HK.out x h).2.1)).mono ?_
  rintro e w1 ⟨v, rfl, hown, hb⟩
  obtain ⟨hc, hf, hz⟩ := ext_facts hb
  obtain ⟨g, cap, rfl, hg, hlie⟩ := hown.lie HNE.out
  have HL := Lib.hid hlie; clear hlie hown
  go_wp2
  go_loop [4] (fun i => ∃ k : Nat, k ≤ xs.length ∧ i = .int .i64 k) (fun i => xs.length - (intOf i).toNat)
  case atStart => exact ⟨0, Nat.zero_le _, rfl⟩
  case round =>
    obtain ⟨k, hk, rfl⟩ := hrel
    by_cases hlt : k < xs.length
    · obtain ⟨y, Hy⟩ := elem_at hlt
      obtain ⟨c0, c1, c2, c3, c4⟩ := HL.out.head Hy.out
      clear c1 c2 c3 c4
      have h6 : (y.k == 6) = false := beq_eq_false_iff_ne.2 (HK.out y (mem_at Hy)).2.2
      go_wp2
      go_round
      case rel => exact ⟨k + 1, by omega, by go_num⟩
      case measure => simp [intOf]; omega
    · go_wp2
      go_loop [5] (fun i => ∃ k : Nat, k ≤ xs.length ∧ i = .int .i64 k) (fun i => xs.length - (intOf i).toNat)
      case atStart => exact ⟨0, Nat.zero_le _, rfl⟩
      case round =>
        obtain ⟨j, hj, rfl⟩ := hrel
        by_cases hjlt : j < xs.length
        · obtain ⟨y, Hy⟩ := elem_at hjlt
          obtain ⟨c0, c1, c2, c3, c4⟩ := HL.out.head Hy.out
          clear c1 c2 c3 c4
          have h4 : (y.k == 4) = false := beq_eq_false_iff_ne.2 (HK.out y (mem_at Hy)).1
          go_wp2
          go_round
          case rel => exact ⟨j + 1, by omega, by go_num⟩
          case measure => simp [intOf]; omega
        · go_wp2
          exact bodyPost_ret (v := .tuple #[zeroVal, .bool false]) (by simp [results, Tryz.results185, go_sem, *]) rfl ⟨rfl, (by repeat (first | with_reducible exact Below.refl _ _ | with_reducible assumption | ((with_reducible refine Below.setCell ?_ ?_ _); rotate_left; (simp; try omega)) | (with_reducible refine Ext.tr ?_ (by with_reducible assumption)) | (with_reducible refine Ext.al ?_ _) | (with_reducible refine below_drewN ?_ _) | (with_reducible refine Below.drew ?_)))⟩

set_option maxHeartbeats 800000 in
/-- numbers: of values that are numbers, a copy of them. -/
theorem numbers_ok (xs : List Sc) (b o c : Nat) (w : World) (hl : xs.length ≤ 1000000000) (hx : Lie w b o xs) (hne : xs ≠ []) (hk : ∀ x ∈ xs, x.k = 1) :
    Calls Tryz.prog 168 #[.slice (some ⟨b, o, none⟩) xs.length c] w fun e w' => ∃ v, e = .returned (.tuple #[v, zeroVal, .bool true]) ∧ Owns w' w.heap.size v xs ∧ Ext w w' := by
  have HX := Lib.hid hx; clear hx
  have HK := Lib.hid hk; clear hk
  have HNE := Lib.hid hne; clear hne
  go_enter Tryz.func168, Tryz.ntmps168
  go_wp2
  go_loopw [5, 6] (fun v i wr => ∃ k : Nat, k ≤ xs.length ∧ i = .int .i64 k ∧ Ext (w.alloc (.cells #[.int .i64 0, .int .i64 0, .int .i64 0, .string ⟨#[]⟩, .slice none 0 0] 28)) wr ∧ Owns wr (w.heap.size + 1) v (xs.take k)) (fun _ i _ => xs.length - (intOf i).toNat)
  case atStart => exact ⟨0, Nat.zero_le _, rfl, Ext.rf _, Owns.nil _ _⟩
  case round =>
    obtain ⟨k, hk, rfl, hb, hown⟩ := hrel
    have HO := Lib.hid hown; clear hown
    have hb0 := ((Ext.rf w).al _).tr hb
    have hsz := hb.size
    simp only [World.size_alloc] at hsz
    by_cases hlt : k < xs.length
    · obtain ⟨x, Hx⟩ := elem_at hlt
      obtain ⟨c0, c1, c2, c3, c4⟩ := (HX.out.ext hb0) k x Hx.out
      have hx1 := Lib.hid (HK.out x (mem_at Hx))
      go_wp2_with fail
      refine (asNumber_num x.k x.n x.d x.t _ (Or.inl hx1.out)).mono ?_
      rintro e w1 ⟨rfl, hb1⟩
      have hb2 := hb.tr hb1
      have hown1 := Lib.hid (HO.out.ext hb1)
      have hsz2 := hb2.size
      simp only [World.size_alloc] at hsz2
      go_wp2_with (at_builtin; refine append_vals rfl _ _ rfl (w.heap.size + 1) _ (xs.take k) rfl (hown1.out.alloc _) w1.heap.size 0 1 [x] rfl (lie_one w1 x) (by simp; omega) (by simp; omega) ?_; intro v' w2 hown2 hg2)
      have hb3 : Ext (w.alloc (.cells #[.int .i64 0, .int .i64 0, .int .i64 0, .string ⟨#[]⟩, .slice none 0 0] 28)) w2 := Below.grown (hb2.al _) hg2 (by simp; omega) (by simp only [World.size_alloc]; exact hown1.out.below)
      have HO2 := Lib.hid hown2; clear hown2
      go_roundw
      case rel => exact ⟨k + 1, by omega, by go_num, hb3, by rw [take_succ_at Hx]; exact HO2.out⟩
      case measure => simp [intOf]; omega
    · have hown3 := HO.out
      rw [List.take_of_length_le (by omega)] at hown3
      obtain ⟨g, cap, hv, hg, hlie⟩ := hown3.lie HNE.out
      have HV := Lib.hid hv; clear hv
      have HL := Lib.hid hlie; clear hlie
      have HO3 := Lib.hid hown3; clear hown3
      obtain ⟨hcA, hfA, hzA⟩ := ext_facts hb
      go_wp2_with fail
      rw [HV.out]
      refine (first_none xs g 0 cap _ hl HL.out HNE.out (fun x h => by rw [HK.out x h]; decide)).mono ?_
      rintro e w2 ⟨rfl, hb4⟩
      obtain ⟨hcB, hfB, hzB⟩ := ext_facts hb4
      have HO4 := Lib.hid (HO3.out.ext hb4)
      have hlt1 : w.heap.size < wr.heap.size := by omega
      have hlt2 : w.heap.size < w2.heap.size := by omega
      go_wp2
      refine bodyPost_ret (v := .tuple #[.slice (some ⟨g, 0, none⟩) xs.length cap, zeroVal, .bool true]) (by simp [results, Tryz.results168, go_sem, *]) rfl ⟨_, rfl, ?_, ?_⟩
      · have hfin := HO4.out
        rw [HV.out] at hfin
        refine Owns.mono (B := w.heap.size + 1) ?_ (by omega)
        repeat (first | with_reducible assumption | (with_reducible refine Owns.alloc ?_ _) | ((with_reducible refine Owns.setBelow ?_ ?_ _); rotate_left; (simp; try omega)))
      · repeat (first | with_reducible exact Below.refl _ _ | with_reducible assumption | ((with_reducible refine Below.setCell ?_ ?_ _); rotate_left; (simp; try omega)) | (with_reducible refine Ext.tr ?_ (by with_reducible assumption)) | (with_reducible refine Ext.al ?_ _) | (with_reducible refine below_drewN ?_ _) | (with_reducible refine Below.drew ?_))

end Go.Proofs.YtpcfmkongpmmmaaGreatDoor
