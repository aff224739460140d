/-
  with: a law's range and its single values, as arguments.
-/
import Derived.Test.YtbehdafigmlnfaaGreatDoorTc
namespace Go.Proofs.YtbehdafigmlnfaaGreatDoor
set_option linter.unusedSimpArgs false
set_option linter.unusedVariables false
open Go Go.RowKit
set_option maxRecDepth 100000

theorem GOwns.cap {α : Type} {cells : α → List Value} {z : Nat} {ty : TypeId} {w : World} {B : Nat} {a : Option Addr} {n c : Nat} {xs : List α} (h : GOwns cells z ty w B (.slice a n c) xs) : xs.length ≤ c := by
  obtain ⟨_, ⟨h1, h2⟩ | ⟨g, cap, cur, h1, _, _, h2, _⟩⟩ := h
  · rw [h2]; exact Nat.zero_le _
  · injection h1 with _ _ h3
    rw [h3]; exact h2

/-- A slice of one element, newly laid. -/
theorem aowns_lit {w : World} {B L H : Nat} {m : Mc} {y : Vt Sc} (h : VtR L H w (m, y)) (hL : B ≤ L) (hH : H ≤ w.heap.size) (hB : B ≤ w.heap.size) :
    AOwns vtCells 5 34 VtR (w.alloc (.cells #[.int .i64 m.k, .int .i64 m.n, .int .i64 m.d, .string m.t, .slice m.ra m.rl m.rc] 34)) B (.slice (some ⟨w.heap.size, 0, none⟩) 1 1) [(m, y)] := by
  refine ⟨⟨rfl, Or.inr ⟨w.heap.size, 1, _, rfl, hB, heap_alloc_new _ _ _ rfl, Nat.le_refl _, by unfold maxLen; omega, rfl, rfl⟩⟩, fun i x hx => ?_⟩
  cases i with
  | zero =>
    have e : (m, y) = x := by simpa using hx
    subst e
    refine ⟨L, H, hL, by simp; omega, fun g hg => ?_, vtR_hangs L H w _ (m, y) h fun k _ hk => heap_alloc_old _ _ _ (by omega)⟩
    have e : w.heap.size = g := by simpa [Value.ownBlock] using hg
    omega
  | succ i => simp at hx

theorem vt_new (w : World) (x : Sc) : GLie vtCells 5 (w.alloc (.cells #[.int .i64 x.k, .int .i64 x.n, .int .i64 x.d, .string x.t, .slice none 0 0] 34)) w.heap.size 0 [(x.mc, .sc x)] :=
  glie_one (cells := vtCells) (z := 5) w (x.mc, .sc x) _ _ rfl

/-- The arguments of a law: its table, and single values. -/
abbrev lawArgs (m : Mc) (rows : List (List Sc)) (xs : List Sc) : List (Mc × Vt Sc) := (m, .mat rows) :: xs.map fun x => (x.mc, .sc x)

theorem lawArgs_snoc (m : Mc) (rows : List (List Sc)) (ys : List Sc) (y : Sc) : lawArgs m rows (ys ++ [y]) = lawArgs m rows ys ++ [(y.mc, .sc y)] := by simp [lawArgs]

def WithSt (N B : Nat) (m : Mc) (rows : List (List Sc)) (w0 wr : World) (v i : Value) : Prop :=
  ∃ (k : Nat) (xs : List Sc), k ≤ 10 ∧ k ≤ N ∧ i = .int .i64 k ∧ Ext w0 wr ∧ AOwns vtCells 5 34 VtR wr B v (lawArgs m rows xs) ∧ xs.length = k ∧ ∀ x ∈ xs, ItemSc x

def WithP (w : World) (e : Ending) (w' : World) : Prop :=
  ∃ m rows xs b c, e = .returned (.slice (some ⟨b, 0, none⟩) (1 + xs.length) c) ∧ ArgsIn w' b 0 (lawArgs m rows xs) ∧ 1 + xs.length ≤ c ∧ TabOk rows ∧ xs.length ≤ 10 ∧ (∀ x ∈ xs, ItemSc x) ∧ Ext w w'

set_option maxHeartbeats 3200000 in
theorem with_ok (xs ms : List It) (a am : Option Addr) (c cm : Nat) (cols : Int) (w : World) (hx : ItAt w a xs) (hcc : xs.length ≤ c) (hcm : c ≤ maxLen) (hm : ItAt w am ms) (hml : ms.length ≤ maxLen) :
    Calls Tryz.prog 7 #[.slice a xs.length c, .int .i64 cols, .slice am ms.length cm] w (WithP w) := by
  have HT := Lib.hid (fun w' (hw : Ext w w') => table_any' xs a c cols w' (hx.ext hw) hcc hcm)
  have HM := Lib.hid hm
  have hml' : ms.length ≤ 9223372036854775807 := hml
  clear hx hm hcc hcm hml
  by_cases hm0 : ms.length = 0
  · skip
    go_enter Tryz.func7, Tryz.ntmps7
    go_wp2_with fail
    refine (HT.out _ (Ext.rf _)).mono ?_
    rintro e w1 ⟨m, rows, rfl, hvr, htab, hb1⟩
    have hsz1 := hb1.size
    have hao := aowns_lit (B := w.heap.size) hvr (by omega) (Nat.le_refl _) hsz1
    have HA := Lib.hid hao; have HTAB := Lib.hid htab
    clear hao hvr htab
    obtain ⟨mk, mn, md, mt, ra, rl, rc⟩ := m
    go_wp2
    go_loopw [7, 8] (fun v i wr => WithSt ms.length w.heap.size ⟨mk, mn, md, mt, ra, rl, rc⟩ rows w wr v i) (fun _ i _ => 10 - (intOf i).toNat)
    case atStart => exact ⟨0, [], by omega, Nat.zero_le _, rfl, hb1.al _, HA.out, rfl, by simp⟩
    case round =>
      obtain ⟨k, ys, hk10, hkn, rfl, hb, hown, hyl, hyi⟩ := hrel
      have HO := Lib.hid hown; clear hown
      have HYL := Lib.hid hyl; clear hyl
      have HYI := Lib.hid hyi; clear hyi
      have hbw := hb
      have hszr := hbw.size
      have hlen : (lawArgs ⟨mk, mn, md, mt, ra, rl, rc⟩ rows ys).length ≤ 11 := by
        rw [List.length_cons, List.length_map, HYL.out]; omega
      by_cases hlt : k < ms.length ∧ k < 10
      · obtain ⟨h1, h2⟩ := hlt
        exact absurd h1 (by omega)
      · have hend : ¬ (k < ms.length) ∨ (k < ms.length ∧ ¬ k < 10) := by omega
        have hfin := HO.out.lie vtCells_len (by simp)
        obtain ⟨g, cap, hv, hg, hgl, hglie, hh⟩ := hfin
        have hargs : ArgsIn wr g 0 (lawArgs ⟨mk, mn, md, mt, ra, rl, rc⟩ rows ys) := ⟨hglie, fun i y hi => by
          obtain ⟨L, H, _, q2, q3⟩ := hh i y hi
          exact ⟨L, H, q2, q3⟩⟩
        have hcap : (lawArgs ⟨mk, mn, md, mt, ra, rl, rc⟩ rows ys).length ≤ cap := by
          have h := HO.out.own
          rw [hv] at h
          exact h.cap
        have hln : (lawArgs ⟨mk, mn, md, mt, ra, rl, rc⟩ rows ys).length = 1 + ys.length := by rw [List.length_cons, List.length_map]; omega
        rw [hln] at hv hcap
        have HAR := Lib.hid hargs; have HCAP := Lib.hid hcap; have HV := Lib.hid hv
        clear hh hglie hargs hcap hln hlen hv
        rcases hend with hend | ⟨hend1, hend2⟩
        all_goals go_wp2
        all_goals
          refine bodyPost_ret (v := u7) (by simp [results, Tryz.results7, go_sem, *]) rfl ⟨⟨mk, mn, md, mt, ra, rl, rc⟩, rows, ys, g, cap, by rw [HV.out], HAR.out, HCAP.out, HTAB.out, by rw [HYL.out]; exact hk10, HYI.out, hbw⟩
  · obtain ⟨x0, hx0'⟩ := elem_at (show 0 < ms.length by omega)
    obtain ⟨_, b, o, rfl, _⟩ := HM.out 0 x0 hx0'.out
    clear hx0'
    go_enter Tryz.func7, Tryz.ntmps7
    go_wp2_with fail
    refine (HT.out _ (Ext.rf _)).mono ?_
    rintro e w1 ⟨m, rows, rfl, hvr, htab, hb1⟩
    have hsz1 := hb1.size
    have hao := aowns_lit (B := w.heap.size) hvr (by omega) (Nat.le_refl _) hsz1
    have HA := Lib.hid hao; have HTAB := Lib.hid htab
    clear hao hvr htab
    obtain ⟨mk, mn, md, mt, ra, rl, rc⟩ := m
    go_wp2
    go_loopw [7, 8] (fun v i wr => WithSt ms.length w.heap.size ⟨mk, mn, md, mt, ra, rl, rc⟩ rows w wr v i) (fun _ i _ => 10 - (intOf i).toNat)
    case atStart => exact ⟨0, [], by omega, Nat.zero_le _, rfl, hb1.al _, HA.out, rfl, by simp⟩
    case round =>
      obtain ⟨k, ys, hk10, hkn, rfl, hb, hown, hyl, hyi⟩ := hrel
      have HO := Lib.hid hown; clear hown
      have HYL := Lib.hid hyl; clear hyl
      have HYI := Lib.hid hyi; clear hyi
      have hbw := hb
      have hszr := hbw.size
      have hlen : (lawArgs ⟨mk, mn, md, mt, ra, rl, rc⟩ rows ys).length ≤ 11 := by
        rw [List.length_cons, List.length_map, HYL.out]; omega
      by_cases hlt : k < ms.length ∧ k < 10
      · obtain ⟨h1, h2⟩ := hlt
        obtain ⟨x, Hx⟩ := elem_at h1
        have hit := (HM.out.ext hbw) k x Hx.out
        obtain ⟨hxok, b1, o1, he, c0, c1, c2⟩ := hit
        simp only [Option.some.injEq, Addr.mk.injEq, and_true] at he
        obtain ⟨he1, he2⟩ := he
        rw [← he1, ← he2] at c0 c1 c2
        clear he1 he2
        have hbl := lt_of_cell c0
        have HIV := Lib.hid (fun w' => itemVal_ok x w' hxok)
        go_wp2_with fail
        refine (HIV.out _).mono ?_
        rintro e w2 ⟨y, rfl, hy, hb2⟩
        have HY := Lib.hid hy; clear hy
        have hsz2 := hb2.size
        obtain ⟨yk, yn, yd, yt⟩ := y
        have hk5 := HY.out.k5
        go_wp2_with (at_builtin; (refine aappend vtR_hangs (by decide) vtCells_len vtCells_one infoVal rfl Tryz.underlying26 (by decide) rfl _ _ rfl w.heap.size _ (lawArgs ⟨mk, mn, md, mt, ra, rl, rc⟩ rows ys) rfl ((HO.out.ext vtR_hangs hb2).alloc vtR_hangs _) w2.heap.size 0 1 (Sc.mc ⟨yk, yn, yd, yt⟩, .sc ⟨yk, yn, yd, yt⟩) rfl (vt_new w2 ⟨yk, yn, yd, yt⟩) (by omega) (by simp; omega) w.heap.size w.heap.size (Nat.le_refl _) (by simp; omega) (fun g hg => Or.inr (HO.out.below g hg)) ⟨rfl, hk5⟩ ?_); intro v' w3 hown3 hg3)
        have hb3 : Ext w w3 := Below.grown ((hb.tr hb2).al _) hg3 (by have := hb.size; simp; omega) (fun q hq => HO.out.below q hq)
        have HO3 := Lib.hid hown3
        clear hown3 hk5
        go_roundw
        case rel => exact ⟨k + 1, ys ++ [⟨yk, yn, yd, yt⟩], by omega, by omega, by go_num, hb3, by rw [lawArgs_snoc]; exact HO3.out, by rw [List.length_append, HYL.out]; rfl, fun z hz => by
          rcases List.mem_append.1 hz with h | h
          · exact HYI.out z h
          · have e : z = ⟨yk, yn, yd, yt⟩ := by simpa using h
            subst e; exact HY.out⟩
        case measure => simp [intOf]; omega
      · have hend : ¬ (k < ms.length) ∨ (k < ms.length ∧ ¬ k < 10) := by omega
        have hfin := HO.out.lie vtCells_len (by simp)
        obtain ⟨g, cap, hv, hg, hgl, hglie, hh⟩ := hfin
        have hargs : ArgsIn wr g 0 (lawArgs ⟨mk, mn, md, mt, ra, rl, rc⟩ rows ys) := ⟨hglie, fun i y hi => by
          obtain ⟨L, H, _, q2, q3⟩ := hh i y hi
          exact ⟨L, H, q2, q3⟩⟩
        have hcap : (lawArgs ⟨mk, mn, md, mt, ra, rl, rc⟩ rows ys).length ≤ cap := by
          have h := HO.out.own
          rw [hv] at h
          exact h.cap
        have hln : (lawArgs ⟨mk, mn, md, mt, ra, rl, rc⟩ rows ys).length = 1 + ys.length := by rw [List.length_cons, List.length_map]; omega
        rw [hln] at hv hcap
        have HAR := Lib.hid hargs; have HCAP := Lib.hid hcap; have HV := Lib.hid hv
        clear hh hglie hargs hcap hln hlen hv
        rcases hend with hend | ⟨hend1, hend2⟩
        all_goals go_wp2
        all_goals
          refine bodyPost_ret (v := u7) (by simp [results, Tryz.results7, go_sem, *]) rfl ⟨⟨mk, mn, md, mt, ra, rl, rc⟩, rows, ys, g, cap, by rw [HV.out], HAR.out, HCAP.out, HTAB.out, by rw [HYL.out]; exact hk10, HYI.out, hbw⟩
end Go.Proofs.YtbehdafigmlnfaaGreatDoor
