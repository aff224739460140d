/-
  LARGE of the package.
  LARGE through its doors.
-/
import Derived.Test.YtpcfmkongpmmmaaGreatDoorSr4
import Derived.Test.YtpcfmkongpmmmaaGreatDoorTl
namespace Go.Proofs.YtpcfmkongpmmmaaGreatDoor
set_option linter.unusedSimpArgs false
set_option linter.unusedVariables false
open Go Go.RowKit
open Go.Sort (Holds putRow)
set_option maxRecDepth 100000

abbrev fcell (z : Int) : List Value := [encF z]
theorem fcell_len (z : Int) : (fcell z).length = 1 := rfl
theorem fcell_one (z : Int) : ∀ u ∈ fcell z, u.oneCell' = true := by
  intro u hu
  have e : u = encF z := by simpa using hu
  subst e; rfl
theorem infoF64 : (Tryz.prog.info? 40).map (fun i => (i.zero, i.size, i.bytes)) = some (some (.float .f64 0), 1, 8) := by kernel_rfl

/-- A row of words of the call's own, as the sort asks for it. -/
theorem holds_owned {w : World} {B : Nat} {v : Value} {ns : List Int} (h : GOwns fcell 1 40 w B v ns) (hne : ns ≠ []) :
    ∃ g cap, v = .slice (some ⟨g, 0, none⟩) ns.length cap ∧ B ≤ g ∧ g < w.heap.size ∧ Holds encF w g 0 ns.toArray := by
  obtain ⟨g, cap, hv, hB, hl⟩ := h.lie fcell_len hne
  obtain ⟨_, ⟨_, h0⟩ | ⟨g', cap', cur, hv', hg, hh, _⟩⟩ := h
  · exact absurd (List.eq_nil_of_length_eq_zero h0) hne
  · rw [hv] at hv'
    injection hv' with e1 _ _
    injection e1 with e1
    injection e1 with e1 _ _
    subst e1
    refine ⟨g, cap, hv, hB, block_lt_heap hh, fun j hj => ?_⟩
    have hj' : j < ns.length := by simpa using hj
    have hc := hl j ns[j] (List.getElem?_eq_getElem hj') 0 (encF ns[j]) rfl
    rw [show 0 + j * 1 + 0 = 0 + j by omega] at hc
    refine ⟨?_, by simp [World.frozen?, hh]⟩
    rw [hc, getElem!_pos ns.toArray j hj]
    rfl

/-- The sort's end: only the row has changed, and new blocks lie behind. -/
theorem sorted_ext {w wr : World} {g n : Nat} {d : Array Int} {os : Array Obj} (hg : w.heap.size ≤ g) (hb : Ext w wr) : Ext w (Go.Sort.grow (putRow encF (Go.Sort.ahead wr n) g 0 d) os) := by
  have hs := hb.size
  refine ⟨hb.os, hb.tape, hb.output, by simp; omega, fun k hk => ?_⟩
  rw [Go.Sort.heap_grow_old _ _ (by simp; omega)]
  show ((wr.heap.modify g _))[k]? = _
  rw [Array.getElem?_modify, if_neg (by omega)]
  exact hb.block k hk

/-- What LARGE says of numbers. -/
def KArr (ns : List Int) (k : Int) (arr : Array Value) : Prop :=
  ((k < 1 ∨ (ns.length : Int) < k) ∧ ∃ m, arr = ferrC ⟨#[35, 78, 85, 77, 33]⟩ m) ∨ (1 ≤ k ∧ k ≤ ns.length ∧ arr = fnumC (fW (Sort.sort ltF ns.toArray)[ns.length - k.toNat]!))

/-- What is sure of a cell. -/
def CellK (zf : Iv → Option Int) (x : Iv) : Prop := (x = ⟨0, 0, ⟨#[]⟩⟩ ∧ zf x = none) ∨ (∃ z, x = ⟨1, f16 z, ⟨#[]⟩⟩ ∧ -1599999999984 ≤ z ∧ z ≤ 1599999999984 ∧ zf x = some z) ∨ ∃ t, x = ⟨2, 0, t⟩ ∧ zf x = none

def KthSt (zf : Iv → Option Int) (xs : List Iv) (B : Nat) (w wr : World) (v i : Value) : Prop :=
  ∃ k : Nat, k ≤ xs.length ∧ i = .int .i64 k ∧ Ext w wr ∧ GOwns fcell 1 40 wr B v ((xs.take k).filterMap zf)

theorem fm_none {zf : Iv → Option Int} {xs : List Iv} {k : Nat} {x : Iv} (h : Hid (xs[k]? = some x)) (hz : zf x = none) : (xs.take (k + 1)).filterMap zf = (xs.take k).filterMap zf := by
  rw [take_succ_at h, List.filterMap_append]; simp [hz]
theorem fm_some {zf : Iv → Option Int} {xs : List Iv} {k : Nat} {x : Iv} {z : Int} (h : Hid (xs[k]? = some x)) (hz : zf x = some z) : (xs.take (k + 1)).filterMap zf = (xs.take k).filterMap zf ++ [z] := by
  rw [take_succ_at h, List.filterMap_append]; simp [hz]

theorem fl_oneAt (w : World) (n : Nat) (hn : n = w.heap.size) (z : Int) (t : TypeId) : GLie fcell 1 (w.alloc (.cells #[encF z] t)) n 0 [z] := by
  subst hn
  exact glie_one w z t _ rfl

theorem gform {α : Type} {cells : α → List Value} {z : Nat} {ty : TypeId} {w : World} {B : Nat} {v : Value} {xs : List α} (h : GOwns cells z ty w B v xs) : ∃ a c, v = .slice a xs.length c := by
  obtain ⟨_, ⟨h1, h2⟩ | ⟨g, cap, cur, h1, _⟩⟩ := h
  · exact ⟨none, 0, by rw [h1, h2]⟩
  · exact ⟨_, _, h1⟩

theorem tame_fW (z : Int) : Tame (fW z) := by
  have h := cl_le z
  exact tame_f16 (by omega) (by omega)

theorem conv_k {n : Int} (h1 : -2 ^ 53 < n) (h2 : n < 2 ^ 53) (w : World) : (convert 40 3 (.float .f64 (Fl.fx 0 n))).run Tryz.prog w = .ok (.int .i64 n) w := by
  refine run_convert_float_int w 40 3 .f64 .i64 (Fl.fx 0 n) n (by kernel_rfl) Tryz.underlying3 ?_
  have h := Fl.toInt_fx h1 h2
  unfold floatToIntVal
  rw [show (FloatKind.f64.decode (Fl.fx 0 n)).toInt .zero = some n from h]
  have h3 : IntKind.i64.min = -9223372036854775808 := by decide
  have h4 : IntKind.i64.max = 9223372036854775807 := by decide
  simp only [h3, h4]
  rw [if_pos (by omega)]

set_option maxHeartbeats 6400000 in
theorem fn_kth (fb b B : Nat) (es : List (Nat × Value)) (ps : List (Array Value × Vt Iv)) (rows : List (List Iv)) (k : Int) (zf : Iv → Option Int) (w : World)
    (h : FArgs w b B es ps) (hv : vts ps = [.mat rows, .sc ⟨1, f16 (16 * k), ⟨#[]⟩⟩]) (hk1 : -99999999999 ≤ k) (hk2 : k ≤ 99999999999) (hz : ∀ x ∈ rows.flatten, CellK zf x) (hfl : rows.flatten.length ≤ 1000) :
    Calls Tryz.prog 41 #[ptr fb, .string ⟨#[76, 65, 82, 71, 69]⟩, ptr b] w fun e w' => ∃ arr, e = .returned (.agg arr) ∧ KArr (rows.flatten.filterMap zf) k arr ∧ Ext w w' := by
  have hpl : ps.length = 2 := by
    have := congrArg List.length hv
    simpa only [vts, List.length_map, List.length_cons, List.length_nil] using this
  have hesl := h.len
  obtain ⟨p1, H1⟩ := elem_at (show 0 < ps.length by omega)
  obtain ⟨p2, H2⟩ := elem_at (show 1 < ps.length by omega)
  have hps : ps = [p1, p2] := by
    match ps, hpl, H1.out, H2.out with
    | [a, c], _, h1, h2 => simp at h1 h2; rw [h1, h2]
  subst hps
  have e12 : p1.2 = Vt.mat rows ∧ p2.2 = Vt.sc ⟨1, f16 (16 * k), ⟨#[]⟩⟩ := by
    simp only [vts, List.map_cons, List.map_nil, List.cons.injEq, and_true] at hv
    exact hv
  obtain ⟨L, H, hH, _, hfa⟩ := h.2.2.2.2 0 p1 rfl
  obtain ⟨L2, H2', hH2, _, hfa2⟩ := h.2.2.2.2 1 p2 rfl
  obtain ⟨a1, v1⟩ := p1
  obtain ⟨a2, v2⟩ := p2
  obtain ⟨rfl, rfl⟩ : v1 = _ ∧ v2 = _ := e12
  obtain ⟨hne, _, b', c', q1, q2, hp1, _, _, _, _, _, _, hml, hll1, hll2⟩ := hfa
  have e1 : a1 = matC b' rows.length c' q1 q2 := hp1
  have e2 : a2 = innerC ⟨1, f16 (16 * k), ⟨#[]⟩⟩ := hfa2
  rw [show innerC ⟨1, f16 (16 * k), ⟨#[]⟩⟩ = fnumC (Fl.fx 0 k) by rw [f16_whole (by omega) (by omega)]; rfl] at e2
  subst e1; subst e2
  have hargs : ArgsAt w b B [matC b' rows.length c' q1 q2, fnumC (Fl.fx 0 k)] := ⟨es, h.1, h.2.1, h.2.2.1, h.2.2.2.1⟩
  have hfne : rows.flatten ≠ [] := by
    intro h0
    have h3 := rows_le_flatten (rows := rows) (fun row hr => by
      obtain ⟨i, hi⟩ := List.getElem?_of_mem hr
      exact (hml i row hi).1)
    rw [h0] at h3
    exact hne (List.eq_nil_of_length_eq_zero (by simpa using h3))
  have HT := Lib.hid (fun (w' : World) (hw : Ext w w') => toList_mat rows L H b' c' q1 q2 w' hne hfl (hml.ext hw))
  have HA := Lib.hid hargs
  have HTN := Lib.hid (fun w' => toNumber_num (Fl.fx 0 k) false w' (by rw [← f16_whole (by omega) (by omega)]; exact tame_f16 (by omega) (by omega)))
  have HCV := Lib.hid (fun w => conv_k (n := k) (by omega) (by omega) w)
  have HZ := Lib.hid hz
  clear hargs h hml hll1 hll2 hz hv H1 H2 hpl hesl
  generalize rows.flatten = xs at hfl HT HZ hfne ⊢
  generalize Fl.fx 0 k = kx at HA HTN HCV ⊢
  have hcv := HCV.out
  go_enter Tryz.func41, Tryz.ntmps41
  (go_wp2_with fail; refine (len_ok _ b B _ (HA.out.ext (by repeat (first | with_reducible exact Below.refl _ _ | with_reducible assumption | ((with_reducible refine Below.setCell ?_ ?_ _); rotate_left; (simp; try omega)) | (with_reducible refine Ext.tr ?_ (by with_reducible assumption)) | (with_reducible refine Ext.al ?_ _) | (with_reducible refine below_drewN ?_ _) | (with_reducible refine Below.drew ?_))))).mono ?_; rintro e w1 ⟨rfl, rfl⟩)
  (go_wp2_with fail; refine (front_ok _ b B _ [fnumC kx] (HA.out.ext (by repeat (first | with_reducible exact Below.refl _ _ | with_reducible assumption | ((with_reducible refine Below.setCell ?_ ?_ _); rotate_left; (simp; try omega)) | (with_reducible refine Ext.tr ?_ (by with_reducible assumption)) | (with_reducible refine Ext.al ?_ _) | (with_reducible refine below_drewN ?_ _) | (with_reducible refine Below.drew ?_))))).mono ?_; rintro e w1 ⟨⟨n1, rfl, he⟩, rfl⟩)
  unfold ElemAt at he
  go_wp2_with fail
  refine (HT.out _ (by repeat (first | with_reducible exact Below.refl _ _ | with_reducible assumption | ((with_reducible refine Below.setCell ?_ ?_ _); rotate_left; (simp; try omega)) | (with_reducible refine Ext.tr ?_ (by with_reducible assumption)) | (with_reducible refine Ext.al ?_ _) | (with_reducible refine below_drewN ?_ _) | (with_reducible refine Below.drew ?_)))).mono ?_
  rintro e w2 ⟨v, rfl, hown, hb2⟩
  obtain ⟨g, cap, hvv, hg, hgl⟩ := GOwns.lie innerL_len hown hfne
  subst hvv
  have HG := Lib.hid hgl
  clear hown hgl he
  (obtain ⟨hc2, hf2, hz2⟩ := ext_facts hb2; (try simp at hz2); (have hq2_0 : w.heap.size < w2.heap.size := by omega); (have hl2_0 : w.heap.size ≤ w2.heap.size := by omega); (have hr2_0 := fun o => hc2 (w.heap.size) o (by first | omega | (simp; done) | (simp; omega))); (have hs2_0 := fun o => hf2 (w.heap.size) o (by first | omega | (simp; done) | (simp; omega))); (try simp (disch := first | omega | (simp; omega)) only [World.cell?_alloc_past, World.cell?_drew] at hr2_0); (try simp (disch := first | omega | (simp; omega)) only [World.frozen?_alloc_past, World.frozen?_drew] at hs2_0); clear hc2 hf2)
  (go_wp2_with fail; refine (back_ok _ b B (fnumC kx) [matC b' rows.length c' q1 q2] (HA.out.ext (by repeat (first | with_reducible exact Below.refl _ _ | with_reducible assumption | ((with_reducible refine Below.setCell ?_ ?_ _); rotate_left; (simp; try omega)) | (with_reducible refine Ext.tr ?_ (by with_reducible assumption)) | (with_reducible refine Ext.al ?_ _) | (with_reducible refine below_drewN ?_ _) | (with_reducible refine Below.drew ?_))))).mono ?_; rintro e w1 ⟨⟨n2, rfl, he2⟩, rfl⟩)
  unfold ElemAt at he2
  (go_wp2_with fail; refine (HTN.out _).mono ?_; rintro e w3 ⟨rfl, hb3⟩; obtain ⟨hc3, hf3, hz3⟩ := ext_facts hb3; (try simp at hz3); (have hq3_0 : w.heap.size < w3.heap.size := by omega); (have hl3_0 : w.heap.size ≤ w3.heap.size := by omega); (have hr3_0 := fun o => hc3 (w.heap.size) o (by first | omega | (simp; done) | (simp; omega))); (have hs3_0 := fun o => hf3 (w.heap.size) o (by first | omega | (simp; done) | (simp; omega))); (try simp (disch := first | omega | (simp; omega)) only [World.cell?_alloc_past, World.cell?_drew] at hr3_0); (try simp (disch := first | omega | (simp; omega)) only [World.frozen?_alloc_past, World.frozen?_drew] at hs3_0); clear hc3 hf3)
  clear he2
  have HG3 := Lib.hid (HG.out.ext hb3)
  have hbw3 : Ext w w3 := (by repeat (first | with_reducible exact Below.refl _ _ | with_reducible assumption | ((with_reducible refine Below.setCell ?_ ?_ _); rotate_left; (simp; try omega)) | (with_reducible refine Ext.tr ?_ (by with_reducible assumption)) | (with_reducible refine Ext.al ?_ _) | (with_reducible refine below_drewN ?_ _) | (with_reducible refine Below.drew ?_)))
  by_cases hk0 : k < 1
  · (go_wp2_with fail; refine (newError_any _ _ _).mono ?_; rintro e w4 ⟨rfl, hb4⟩; obtain ⟨hc4, hf4, hz4⟩ := ext_facts hb4; (try simp at hz4); (have hq4_0 : w.heap.size < w4.heap.size := by omega); (have hl4_0 : w.heap.size ≤ w4.heap.size := by omega); (have hr4_0 := fun o => hc4 (w.heap.size) o (by first | omega | (simp; done) | (simp; omega))); (have hs4_0 := fun o => hf4 (w.heap.size) o (by first | omega | (simp; done) | (simp; omega))); (try simp (disch := first | omega | (simp; omega)) only [World.cell?_alloc_past, World.cell?_drew] at hr4_0); (try simp (disch := first | omega | (simp; omega)) only [World.frozen?_alloc_past, World.frozen?_drew] at hs4_0); clear hc4 hf4)
    go_wp2
    exact bodyPost_ret (v := .agg (ferrC ⟨#[35, 78, 85, 77, 33]⟩ ⟨#[107, 32, 115, 104, 111, 117, 108, 100, 32, 98, 101, 32, 62, 32, 48]⟩)) (by simp [results, Tryz.results41, go_sem, *]) rfl ⟨_, rfl, Or.inl ⟨Or.inl hk0, _, rfl⟩, (by repeat (first | with_reducible exact Below.refl _ _ | with_reducible assumption | ((with_reducible refine Below.setCell ?_ ?_ _); rotate_left; (simp; try omega)) | (with_reducible refine Ext.tr ?_ (by with_reducible assumption)) | (with_reducible refine Ext.al ?_ _) | (with_reducible refine below_drewN ?_ _) | (with_reducible refine Below.drew ?_)))⟩
  · go_wp2
    go_loopw [10, 45] (fun v i wr => KthSt zf xs w3.heap.size w3 wr v i) (fun _ i _ => xs.length - (intOf i).toNat)
    case atStart => exact ⟨0, Nat.zero_le _, rfl, (by repeat (first | with_reducible exact Below.refl _ _ | with_reducible assumption | ((with_reducible refine Below.setCell ?_ ?_ _); rotate_left; (simp; try omega)) | (with_reducible refine Ext.tr ?_ (by with_reducible assumption)) | (with_reducible refine Ext.al ?_ _) | (with_reducible refine below_drewN ?_ _) | (with_reducible refine Below.drew ?_))), GOwns.nil _ _⟩
    case round =>
      obtain ⟨j, hj, rfl, hb, hown⟩ := hrel
      have HO := Lib.hid hown; clear hown
      have hsz := hb.size
      by_cases hlt : j < xs.length
      · obtain ⟨x, Hx⟩ := elem_at hlt
        have hgr := HG3.out.ext hb
        rcases HZ.out x (mem_at Hx) with ⟨rfl, hz0⟩ | ⟨z, rfl, z1, z2, hz0⟩ | ⟨t, rfl, hz0⟩
        · obtain ⟨c0, c1, c2, c3, c4, c5, c6, c7, c8, c9⟩ := fa_cells hgr Hx.out (by rfl)
          have HF := Lib.hid (fm_none Hx hz0)
          clear hgr hz0
          go_wp2
          exact ⟨⟨j + 1, by omega, by go_num, (by repeat (first | with_reducible exact Below.refl _ _ | with_reducible assumption | ((with_reducible refine Below.setCell ?_ ?_ _); rotate_left; (simp; try omega)) | (with_reducible refine Ext.tr ?_ (by with_reducible assumption)) | (with_reducible refine Ext.al ?_ _) | (with_reducible refine below_drewN ?_ _) | (with_reducible refine Below.drew ?_))), by rw [HF.out]; exact HO.out.ext (by repeat (first | with_reducible exact Below.refl _ _ | with_reducible assumption | ((with_reducible refine Below.setCell ?_ ?_ _); rotate_left; (simp; try omega)) | (with_reducible refine Ext.tr ?_ (by with_reducible assumption)) | (with_reducible refine Ext.al ?_ _) | (with_reducible refine below_drewN ?_ _) | (with_reducible refine Below.drew ?_)))⟩, by simp [intOf]; omega⟩
        · obtain ⟨c0, c1, c2, c3, c4, c5, c6, c7, c8, c9⟩ := fa_cells hgr Hx.out (by rfl)
          have HF := Lib.hid (fm_some Hx hz0)
          have hl1 : ((xs.take j).filterMap zf).length ≤ 1000 := by
            have h1 := List.length_filterMap_le zf (xs.take j)
            have h2 := List.length_take_le j xs
            omega
          rw [← fW_id z1 z2] at c1
          clear hgr hz0
          go_wp2_with (at_builtin; (refine gappend (cells := fcell) (z := 1) (ty := 40) (by decide) fcell_len fcell_one infoF64 rfl Tryz.underlying104 (by decide) rfl _ _ rfl w3.heap.size _ ((xs.take j).filterMap zf) rfl ((HO.out.alloc _).alloc _) (wr.heap.size + 1) 0 1 [z] rfl (fl_oneAt _ _ (by simp) z _) (by simp; omega) (by simp; omega) ?_); intro v' w5 hown5 hg5)
          have hb5 : Ext w3 w5 := Below.grown ((hb.al _).al _) hg5 (by simp; omega) (fun q hq => HO.out.below q hq)
          have HO5 := Lib.hid hown5; clear hown5
          go_roundw
          case rel => exact ⟨j + 1, by omega, by go_num, hb5, by rw [HF.out]; exact HO5.out⟩
          case measure => simp [intOf]; omega
        · obtain ⟨c0, c1, c2, c3, c4, c5, c6, c7, c8, c9⟩ := fa_cells hgr Hx.out (by rfl)
          have HF := Lib.hid (fm_none Hx hz0)
          clear hgr hz0
          go_wp2
          exact ⟨⟨j + 1, by omega, by go_num, (by repeat (first | with_reducible exact Below.refl _ _ | with_reducible assumption | ((with_reducible refine Below.setCell ?_ ?_ _); rotate_left; (simp; try omega)) | (with_reducible refine Ext.tr ?_ (by with_reducible assumption)) | (with_reducible refine Ext.al ?_ _) | (with_reducible refine below_drewN ?_ _) | (with_reducible refine Below.drew ?_))), by rw [HF.out]; exact HO.out.ext (by repeat (first | with_reducible exact Below.refl _ _ | with_reducible assumption | ((with_reducible refine Below.setCell ?_ ?_ _); rotate_left; (simp; try omega)) | (with_reducible refine Ext.tr ?_ (by with_reducible assumption)) | (with_reducible refine Ext.al ?_ _) | (with_reducible refine below_drewN ?_ _) | (with_reducible refine Below.drew ?_)))⟩, by simp [intOf]; omega⟩
      · have ho := HO.out
        rw [List.take_of_length_le (by omega)] at ho
        have hl1 : (xs.filterMap zf).length ≤ 1000 := by
          have h1 := List.length_filterMap_le zf xs
          omega
        obtain ⟨ns, hns⟩ : ∃ ns, xs.filterMap zf = ns := ⟨_, rfl⟩
        have HNS := Lib.hid hns
        rw [hns] at ho hl1
        clear hns
        have hbr : Ext w3 wr := hb
        have hbwr : Ext w wr := hbw3.tr hb
        (obtain ⟨hcr, hfr, hzr⟩ := ext_facts hbr; (try simp at hzr); (have hqr_0 : w.heap.size < wr.heap.size := by omega); (have hlr_0 : w.heap.size ≤ wr.heap.size := by omega); (have hrr_0 := fun o => hcr (w.heap.size) o (by first | omega | (simp; done) | (simp; omega))); (have hsr_0 := fun o => hfr (w.heap.size) o (by first | omega | (simp; done) | (simp; omega))); (try simp (disch := first | omega | (simp; omega)) only [World.cell?_alloc_past, World.cell?_drew] at hrr_0); (try simp (disch := first | omega | (simp; omega)) only [World.frozen?_alloc_past, World.frozen?_drew] at hsr_0); clear hcr hfr)
        clear HO
        by_cases hlen : (ns.length : Int) < k
        · obtain ⟨a, cc, rfl⟩ := gform ho
          clear ho
          obtain ⟨N, hN⟩ : ∃ N, ns.length = N := ⟨_, rfl⟩
          have HN := Lib.hid hN
          rw [hN] at hlen hl1
          try rw [hN]
          clear hN
          (go_wp2_with fail; refine (newError_any _ _ _).mono ?_; rintro e w4 ⟨rfl, hb4⟩; obtain ⟨hc4, hf4, hz4⟩ := ext_facts hb4; (try simp at hz4); (have hq4_0 : w.heap.size < w4.heap.size := by omega); (have hl4_0 : w.heap.size ≤ w4.heap.size := by omega); (have hr4_0 := fun o => hc4 (w.heap.size) o (by first | omega | (simp; done) | (simp; omega))); (have hs4_0 := fun o => hf4 (w.heap.size) o (by first | omega | (simp; done) | (simp; omega))); (try simp (disch := first | omega | (simp; omega)) only [World.cell?_alloc_past, World.cell?_drew] at hr4_0); (try simp (disch := first | omega | (simp; omega)) only [World.frozen?_alloc_past, World.frozen?_drew] at hs4_0); clear hc4 hf4)
          go_wp2
          exact bodyPost_ret (v := .agg (ferrC ⟨#[35, 78, 85, 77, 33]⟩ ⟨#[107, 32, 115, 104, 111, 117, 108, 100, 32, 98, 101, 32, 60, 61, 32, 108, 101, 110, 103, 116, 104, 32, 111, 102, 32, 97, 114, 114, 97, 121]⟩)) (by simp [results, Tryz.results41, go_sem, *]) rfl ⟨_, rfl, Or.inl ⟨Or.inr (by rw [HNS.out, HN.out]; exact hlen), _, rfl⟩, (by repeat (first | with_reducible exact Below.refl _ _ | with_reducible assumption | ((with_reducible refine Below.setCell ?_ ?_ _); rotate_left; (simp; try omega)) | (with_reducible refine Ext.tr ?_ (by with_reducible assumption)) | (with_reducible refine Ext.al ?_ _) | (with_reducible refine below_drewN ?_ _) | (with_reducible refine Below.drew ?_)))⟩
        · obtain ⟨K, hK⟩ : ∃ K : Nat, k = K := ⟨k.toNat, by omega⟩
          subst hK
          have hne : ns ≠ [] := by intro h0; rw [h0] at hlen; simp at hlen; omega
          obtain ⟨g2, cap2, rfl, hg2, hgl2, hH2⟩ := holds_owned ho hne
          have HS := float64s_f g2 0 cap2 ns.toArray wr hH2 hgl2 (by simp; omega)
          have hss : (Sort.sort ltF ns.toArray).size = ns.toArray.size := (Go.Sort.sort_sorts ltF swoF ns.toArray).1.1
          have hcell : ∀ n os i, i < ns.length → (Go.Sort.grow (putRow encF (Go.Sort.ahead wr n) g2 0 (Sort.sort ltF ns.toArray)) os).cell? ⟨g2, i, none⟩ = some (encF (Sort.sort ltF ns.toArray)[i]!) := fun n os i hi => by
            rw [Go.Sort.cell?_grow _ _ _ (by simpa using hgl2)]
            have h := Go.Sort.cell?_putRow encF (Go.Sort.ahead wr n) g2 0 ns.toArray (Sort.sort ltF ns.toArray) (Go.Sort.holds_ahead _ _ n _ _ _ hH2) hss i (by rw [hss]; simpa using hi)
            rwa [Nat.zero_add] at h
          rw [List.size_toArray] at HS
          have HC := Lib.hid hcell
          have HSS := Lib.hid HS
          obtain ⟨N, hN⟩ : ∃ N, ns.length = N := ⟨_, rfl⟩
          have HN := Lib.hid hN
          clear HS hcell hH2 hss hcv ho
          rw [hN] at HSS HC hlen hl1
          try rw [hN]
          clear hN
          go_wp2_with fail
          refine HSS.out.mono ?_
          rintro e w6 ⟨rfl, n, os, hw6⟩
          have hb6 : Ext w3 w6 := by rw [hw6]; exact sorted_ext hg2 hb
          have hc6 := HC.out n os (N - K) (by omega)
          rw [← hw6] at hc6
          have hfin : KArr (xs.filterMap zf) K (fnumC (fW (Sort.sort ltF ns.toArray)[N - K]!)) := by
            rw [HNS.out]
            exact Or.inr ⟨by omega, by rw [HN.out]; omega, by rw [HN.out, Int.toNat_natCast]⟩
          have HFIN := Lib.hid hfin
          have HTM := Lib.hid (tame_fW (Sort.sort ltF ns.toArray)[N - K]!)
          clear hfin hw6
          (obtain ⟨hc6, hf6, hz6⟩ := ext_facts hb6; (try simp at hz6); (have hq6_0 : w.heap.size < w6.heap.size := by omega); (have hl6_0 : w.heap.size ≤ w6.heap.size := by omega); (have hr6_0 := fun o => hc6 (w.heap.size) o (by first | omega | (simp; done) | (simp; omega))); (have hs6_0 := fun o => hf6 (w.heap.size) o (by first | omega | (simp; done) | (simp; omega))); (try simp (disch := first | omega | (simp; omega)) only [World.cell?_alloc_past, World.cell?_drew] at hr6_0); (try simp (disch := first | omega | (simp; omega)) only [World.frozen?_alloc_past, World.frozen?_drew] at hs6_0); clear hc6 hf6)
          have hidx : wrap64 ((N : Int) - (K : Int)) = ((N - K : Nat) : Int) := by rw [IntWalk.wrap64_in _ ⟨by omega, by omega⟩]; omega
          have hidx2 : (N : Int) - (K : Int) = ((N - K : Nat) : Int) := by omega
          have hIlt : N - K < N := by omega
          have hg6 : g2 < w6.heap.size := lt_of_cell hc6
          generalize N - K = I at *
          go_wp2_with fail
          refine (newNumber_ok _ _ HTM.out).mono ?_
          rintro e w7 ⟨rfl, hb7⟩
          (obtain ⟨hc7, hf7, hz7⟩ := ext_facts hb7; (try simp at hz7); (have hq7_0 : w.heap.size < w7.heap.size := by omega); (have hl7_0 : w.heap.size ≤ w7.heap.size := by omega); (have hr7_0 := fun o => hc7 (w.heap.size) o (by first | omega | (simp; done) | (simp; omega))); (have hs7_0 := fun o => hf7 (w.heap.size) o (by first | omega | (simp; done) | (simp; omega))); (try simp (disch := first | omega | (simp; omega)) only [World.cell?_alloc_past, World.cell?_drew] at hr7_0); (try simp (disch := first | omega | (simp; omega)) only [World.frozen?_alloc_past, World.frozen?_drew] at hs7_0); clear hc7 hf7)
          go_wp2
          exact bodyPost_ret (v := .agg (fnumC (fW (Sort.sort ltF ns.toArray)[I]!))) (by simp [results, Tryz.results41, go_sem, *]) rfl ⟨_, rfl, HFIN.out, (by repeat (first | with_reducible exact Below.refl _ _ | with_reducible assumption | ((with_reducible refine Below.setCell ?_ ?_ _); rotate_left; (simp; try omega)) | (with_reducible refine Ext.tr ?_ (by with_reducible assumption)) | (with_reducible refine Ext.al ?_ _) | (with_reducible refine below_drewN ?_ _) | (with_reducible refine Below.drew ?_)))⟩
end Go.Proofs.YtpcfmkongpmmmaaGreatDoor

namespace Go.Proofs.YtpcfmkongpmmmaaGreatDoor
open Go Go.RowKit
set_option maxRecDepth 100000

/-- What LARGE says, as the thin package has it. -/
def KRes (ns : List Int) (k : Int) (r : Iv) : Prop :=
  ((k < 1 ∨ (ns.length : Int) < k) ∧ r = ⟨4, 0, ⟨#[35, 78, 85, 77, 33]⟩⟩) ∨ (1 ≤ k ∧ k ≤ ns.length ∧ r = ⟨1, fW (Sort.sort ltF ns.toArray)[ns.length - k.toNat]!, ⟨#[]⟩⟩)

theorem door_k {ns : List Int} {k : Int} {r : Iv} {arr : Array Value} (hr : KRes ns k r) (ha : KArr ns k arr) (w : World) : Calls Tryz.prog 24 #[.agg arr] w (Gives w r.val) := by
  rcases hr with ⟨h1, rfl⟩ | ⟨h1, h2, rfl⟩
  · rcases ha with ⟨_, m, rfl⟩ | ⟨h3, h4, _⟩
    · exact doorArg_err _ m w
    · omega
  · rcases ha with ⟨h3, _⟩ | ⟨_, _, rfl⟩
    · omega
    · exact doorArg_num _ w

theorem fn_large (fb b B : Nat) (es : List (Nat × Value)) (ps : List (Array Value × Vt Iv)) (rows : List (List Iv)) (k : Int) (zf : Iv → Option Int) (w : World)
    (h : FArgs w b B es ps) (hv : vts ps = [.mat rows, .sc ⟨1, f16 (16 * k), ⟨#[]⟩⟩]) (hk1 : -99999999999 ≤ k) (hk2 : k ≤ 99999999999) (hz : ∀ x ∈ rows.flatten, CellK zf x) (hfl : rows.flatten.length ≤ 1000) :
    Calls Tryz.prog 26 #[ptr fb, ptr b] w fun e w' => ∃ arr, e = .returned (.agg arr) ∧ KArr (rows.flatten.filterMap zf) k arr ∧ Ext w w' := by
  have HF := Lib.hid (fun (w' : World) (hw : Ext w w') => fn_kth fb b B es ps rows k zf w' (h.ext hw) hv hk1 hk2 hz hfl)
  clear h hv hk1 hk2 hz hfl
  generalize rows.flatten.filterMap zf = ns at HF ⊢
  go_enter Tryz.func26, Tryz.ntmps26
  go_wp2_with fail
  refine (HF.out _ (by repeat (first | with_reducible exact Below.refl _ _ | with_reducible assumption | ((with_reducible refine Below.setCell ?_ ?_ _); rotate_left; (simp; try omega)) | (with_reducible refine Ext.tr ?_ (by with_reducible assumption)) | (with_reducible refine Ext.al ?_ _) | (with_reducible refine below_drewN ?_ _) | (with_reducible refine Below.drew ?_)))).mono ?_
  rintro e w2 ⟨arr, rfl, ha, hb2⟩
  have HA := Lib.hid ha; clear ha
  (obtain ⟨hc2, hf2, hz2⟩ := ext_facts hb2; (try simp at hz2); (have hq2_0 : w.heap.size < w2.heap.size := by omega); (have hl2_0 : w.heap.size ≤ w2.heap.size := by omega); (have hr2_0 := fun o => hc2 (w.heap.size) o (by first | omega | (simp; done) | (simp; omega))); (have hs2_0 := fun o => hf2 (w.heap.size) o (by first | omega | (simp; done) | (simp; omega))); (try simp (disch := first | omega | (simp; omega)) only [World.cell?_alloc_past, World.cell?_drew] at hr2_0); (try simp (disch := first | omega | (simp; omega)) only [World.frozen?_alloc_past, World.frozen?_drew] at hs2_0); clear hc2 hf2)
  have hform : ∃ f s bb mm kk, arr = #[.string ⟨#[]⟩, .float .f64 f, .string s, .slice none 0 0, .slice none 0 0, .bool bb, .string mm, .int .u8 kk, .pointer none, .pointer none] := by
    rcases HA.out with ⟨_, m, e⟩ | ⟨_, _, e⟩
    · exact ⟨_, _, _, _, _, e⟩
    · exact ⟨_, _, _, _, _, e⟩
  obtain ⟨f, s, bb, mm, kk, he⟩ := hform
  subst he
  go_wp2
  exact bodyPost_ret (v := .agg #[.string ⟨#[]⟩, .float .f64 f, .string s, .slice none 0 0, .slice none 0 0, .bool bb, .string mm, .int .u8 kk, .pointer none, .pointer none]) (by simp [results, Tryz.results26, go_sem, *]) rfl ⟨_, rfl, HA.out, (by repeat (first | with_reducible exact Below.refl _ _ | with_reducible assumption | ((with_reducible refine Below.setCell ?_ ?_ _); rotate_left; (simp; try omega)) | (with_reducible refine Ext.tr ?_ (by with_reducible assumption)) | (with_reducible refine Ext.al ?_ _) | (with_reducible refine below_drewN ?_ _) | (with_reducible refine Below.drew ?_)))⟩

set_option maxHeartbeats 1600000 in
theorem door_large (us : List (Im × Vt Iv)) (n : Nat) (hn : n = us.length) (rows : List (List Iv)) (k : Int) (zf : Iv → Option Int) (r : Iv) (b c : Nat) (w : World) (hl : us.length ≤ 1000000) (hx : ArgsIv w b 0 us) (hv : vts us = [.mat rows, .sc ⟨1, f16 (16 * k), ⟨#[]⟩⟩])
    (hk1 : -99999999999 ≤ k) (hk2 : k ≤ 99999999999) (hok : ∀ u ∈ us, u.2.all IvOk) (hz : ∀ x ∈ rows.flatten, CellK zf x) (hfl : rows.flatten.length ≤ 1000) (hr : KRes (rows.flatten.filterMap zf) k r) :
    Calls Tryz.prog 16 #[.slice (some ⟨b, 0, none⟩) n c] w (Gives w r.val) := by
  subst hn
  have HI := Lib.hid (fun (w' : World) (hw : Ext w w') => innerList_vi us b c w' hl (hx.ext hw) hok)
  have HF := Lib.hid (fun (w' : World) (fb p B : Nat) es ps (h : FArgs w' p B es ps) (h2 : vts ps = [.mat rows, .sc ⟨1, f16 (16 * k), ⟨#[]⟩⟩]) => fn_large fb p B es ps rows k zf w' h h2 hk1 hk2 hz hfl)
  have HO := Lib.hid (fun (w' : World) arr (ha : KArr (rows.flatten.filterMap zf) k arr) => door_k hr ha w')
  have HV := Lib.hid hv
  clear hx hok hz hv hr
  go_enter Tryz.func16, Tryz.ntmps16
  (go_wp2_with fail; refine (doorFuncs_any _).mono ?_; rintro e w1 ⟨⟨fb, rfl⟩, hb1⟩; obtain ⟨hc1, hf1, hz1⟩ := ext_facts hb1; (try simp at hz1); (have hq1_0 : w.heap.size < w1.heap.size := by omega); (have hl1_0 : w.heap.size ≤ w1.heap.size := by omega); (have hr1_0 := fun o => hc1 (w.heap.size) o (by first | omega | (simp; done) | (simp; omega))); (have hs1_0 := fun o => hf1 (w.heap.size) o (by first | omega | (simp; done) | (simp; omega))); (try simp (disch := first | omega | (simp; omega)) only [World.cell?_alloc_past, World.cell?_drew] at hr1_0); (try simp (disch := first | omega | (simp; omega)) only [World.frozen?_alloc_past, World.frozen?_drew] at hs1_0); clear hc1 hf1)
  go_wp2_with fail
  refine (HI.out _ (by repeat (first | with_reducible exact Below.refl _ _ | with_reducible assumption | ((with_reducible refine Below.setCell ?_ ?_ _); rotate_left; (simp; try omega)) | (with_reducible refine Ext.tr ?_ (by with_reducible assumption)) | (with_reducible refine Ext.al ?_ _) | (with_reducible refine below_drewN ?_ _) | (with_reducible refine Below.drew ?_)))).mono ?_
  rintro e w2 ⟨p, es, ps, rfl, hargs, hps, hb2⟩
  have HA := Lib.hid hargs; have HPS := Lib.hid hps
  clear hargs hps
  (obtain ⟨hc2, hf2, hz2⟩ := ext_facts hb2; (try simp at hz2); (have hq2_0 : w.heap.size < w2.heap.size := by omega); (have hl2_0 : w.heap.size ≤ w2.heap.size := by omega); (have hr2_0 := fun o => hc2 (w.heap.size) o (by first | omega | (simp; done) | (simp; omega))); (have hs2_0 := fun o => hf2 (w.heap.size) o (by first | omega | (simp; done) | (simp; omega))); (try simp (disch := first | omega | (simp; omega)) only [World.cell?_alloc_past, World.cell?_drew] at hr2_0); (try simp (disch := first | omega | (simp; omega)) only [World.frozen?_alloc_past, World.frozen?_drew] at hs2_0); clear hc2 hf2)
  go_wp2_with fail
  refine (HF.out w2 fb p _ es ps HA.out (by rw [HPS.out, HV.out])).mono ?_
  rintro e w3 ⟨arr, rfl, ha, hb3⟩
  have HAR := Lib.hid (fun w' => HO.out w' arr ha)
  clear ha
  (obtain ⟨hc3, hf3, hz3⟩ := ext_facts hb3; (try simp at hz3); (have hq3_0 : w.heap.size < w3.heap.size := by omega); (have hl3_0 : w.heap.size ≤ w3.heap.size := by omega); (have hr3_0 := fun o => hc3 (w.heap.size) o (by first | omega | (simp; done) | (simp; omega))); (have hs3_0 := fun o => hf3 (w.heap.size) o (by first | omega | (simp; done) | (simp; omega))); (try simp (disch := first | omega | (simp; omega)) only [World.cell?_alloc_past, World.cell?_drew] at hr3_0); (try simp (disch := first | omega | (simp; omega)) only [World.frozen?_alloc_past, World.frozen?_drew] at hs3_0); clear hc3 hf3)
  (go_wp2_with fail; refine (HAR.out _).mono ?_; rintro e w4 ⟨rfl, hb4⟩; obtain ⟨hc4, hf4, hz4⟩ := ext_facts hb4; (try simp at hz4); (have hq4_0 : w.heap.size < w4.heap.size := by omega); (have hl4_0 : w.heap.size ≤ w4.heap.size := by omega); (have hr4_0 := fun o => hc4 (w.heap.size) o (by first | omega | (simp; done) | (simp; omega))); (have hs4_0 := fun o => hf4 (w.heap.size) o (by first | omega | (simp; done) | (simp; omega))); (try simp (disch := first | omega | (simp; omega)) only [World.cell?_alloc_past, World.cell?_drew] at hr4_0); (try simp (disch := first | omega | (simp; omega)) only [World.frozen?_alloc_past, World.frozen?_drew] at hs4_0); clear hc4 hf4)
  go_wp2
  exact bodyPost_ret (v := Iv.val r) (by simp [results, Tryz.results16, go_sem, *]) rfl ⟨rfl, (by repeat (first | with_reducible exact Below.refl _ _ | with_reducible assumption | ((with_reducible refine Below.setCell ?_ ?_ _); rotate_left; (simp; try omega)) | (with_reducible refine Ext.tr ?_ (by with_reducible assumption)) | (with_reducible refine Ext.al ?_ _) | (with_reducible refine below_drewN ?_ _) | (with_reducible refine Below.drew ?_)))⟩

set_option maxHeartbeats 1600000 in
theorem impl_large (zs : List (Im × Vt Iv)) (n : Nat) (hn : n = zs.length) (rows : List (List Iv)) (k : Int) (zf : Iv → Option Int) (r : Iv) (b c : Nat) (w : World) (hl : zs.length ≤ 1000000) (hx : ArgsIv w b 0 zs) (hv : vts zs = [.mat rows, .sc ⟨1, f16 (16 * k), ⟨#[]⟩⟩])
    (hk1 : -99999999999 ≤ k) (hk2 : k ≤ 99999999999) (hz : ∀ x ∈ rows.flatten, CellK zf x ∧ IvOk x) (hfl : rows.flatten.length ≤ 1000) (hr : KRes (rows.flatten.filterMap zf) k r) :
    Calls Tryz.prog 6 #[.slice (some ⟨b, 0, none⟩) n c] w (Gives w r.val) := by
  subst hn
  have hne : zs ≠ [] := by intro h0; rw [h0] at hv; simp [vts] at hv
  have hzl : ∀ us : List (Im × Vt Iv), vts us = vts zs → us.length = zs.length := fun us h => by
    have := congrArg List.length h
    simpa [vts] using this
  have hoku : ∀ us : List (Im × Vt Iv), vts us = vts zs → ∀ u ∈ us, u.2.all IvOk := fun us h u hu => by
    have hm : u.2 ∈ vts us := List.mem_map.2 ⟨u, hu, rfl⟩
    rw [h, hv] at hm
    rcases List.mem_cons.1 hm with e | hm
    · rw [e]
      intro row hr x hxr
      exact (hz x (List.mem_flatten.2 ⟨row, hr, hxr⟩)).2
    · rw [List.mem_singleton.1 hm]
      exact Or.inr (Or.inl ⟨_, rfl, tame_f16 (by omega) (by omega)⟩)
  have HI := Lib.hid (fun (w' : World) (hw : Ext w w') => in_vi zs b c w' hl (hx.ext hw) hne)
  have HD := Lib.hid (fun (w' : World) (us : List (Im × Vt Iv)) (b' c' : Nat) (h : ArgsIv w' b' 0 us) (h2 : vts us = vts zs) => door_large us zs.length (hzl us h2).symm rows k zf r b' c' w' (by rw [hzl us h2]; exact hl) h (h2.trans hv) hk1 hk2 (hoku us h2) (fun x hx => (hz x hx).1) hfl hr)
  clear hx hz hv hzl hoku hr
  go_enter Tryz.func6, Tryz.ntmps6
  go_wp2_with fail
  refine (HI.out _ (by repeat (first | with_reducible exact Below.refl _ _ | with_reducible assumption | ((with_reducible refine Below.setCell ?_ ?_ _); rotate_left; (simp; try omega)) | (with_reducible refine Ext.tr ?_ (by with_reducible assumption)) | (with_reducible refine Ext.al ?_ _) | (with_reducible refine below_drewN ?_ _) | (with_reducible refine Below.drew ?_)))).mono ?_
  rintro e w1 ⟨b', c', us, rfl, hargs, hus, hb1⟩
  have HA := Lib.hid hargs; have HU := Lib.hid hus
  clear hargs hus
  (obtain ⟨hc1, hf1, hz1⟩ := ext_facts hb1; (try simp at hz1); (have hq1_0 : w.heap.size < w1.heap.size := by omega); (have hl1_0 : w.heap.size ≤ w1.heap.size := by omega); (have hr1_0 := fun o => hc1 (w.heap.size) o (by first | omega | (simp; done) | (simp; omega))); (have hs1_0 := fun o => hf1 (w.heap.size) o (by first | omega | (simp; done) | (simp; omega))); (try simp (disch := first | omega | (simp; omega)) only [World.cell?_alloc_past, World.cell?_drew] at hr1_0); (try simp (disch := first | omega | (simp; omega)) only [World.frozen?_alloc_past, World.frozen?_drew] at hs1_0); clear hc1 hf1)
  (go_wp2_with fail; refine (HD.out w1 us b' c' HA.out HU.out).mono ?_; rintro e w2 ⟨rfl, hb2⟩; obtain ⟨hc2, hf2, hz2⟩ := ext_facts hb2; (try simp at hz2); (have hq2_0 : w.heap.size < w2.heap.size := by omega); (have hl2_0 : w.heap.size ≤ w2.heap.size := by omega); (have hr2_0 := fun o => hc2 (w.heap.size) o (by first | omega | (simp; done) | (simp; omega))); (have hs2_0 := fun o => hf2 (w.heap.size) o (by first | omega | (simp; done) | (simp; omega))); (try simp (disch := first | omega | (simp; omega)) only [World.cell?_alloc_past, World.cell?_drew] at hr2_0); (try simp (disch := first | omega | (simp; omega)) only [World.frozen?_alloc_past, World.frozen?_drew] at hs2_0); clear hc2 hf2)
  (go_wp2_with fail; refine (out_ok r _).mono ?_; rintro e w3 ⟨rfl, hb3⟩; obtain ⟨hc3, hf3, hz3⟩ := ext_facts hb3; (try simp at hz3); (have hq3_0 : w.heap.size < w3.heap.size := by omega); (have hl3_0 : w.heap.size ≤ w3.heap.size := by omega); (have hr3_0 := fun o => hc3 (w.heap.size) o (by first | omega | (simp; done) | (simp; omega))); (have hs3_0 := fun o => hf3 (w.heap.size) o (by first | omega | (simp; done) | (simp; omega))); (try simp (disch := first | omega | (simp; omega)) only [World.cell?_alloc_past, World.cell?_drew] at hr3_0); (try simp (disch := first | omega | (simp; omega)) only [World.frozen?_alloc_past, World.frozen?_drew] at hs3_0); clear hc3 hf3)
  go_wp2
  exact bodyPost_ret (v := Iv.val r) (by simp [results, Tryz.results6, go_sem, *]) rfl ⟨rfl, (by repeat (first | with_reducible exact Below.refl _ _ | with_reducible assumption | ((with_reducible refine Below.setCell ?_ ?_ _); rotate_left; (simp; try omega)) | (with_reducible refine Ext.tr ?_ (by with_reducible assumption)) | (with_reducible refine Ext.al ?_ _) | (with_reducible refine below_drewN ?_ _) | (with_reducible refine Below.drew ?_)))⟩
end Go.Proofs.YtpcfmkongpmmmaaGreatDoor
