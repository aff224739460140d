/-
  sumproduct of the package, walked.
-/
import Derived.Test.YtdakljeladhciaaGreatDoorFr2
namespace Go.Proofs.YtdakljeladhciaaGreatDoor
set_option linter.unusedSimpArgs false
set_option linter.unusedVariables false
open Go Go.RowKit
set_option maxRecDepth 100000

abbrev oneW : Nat := 4607182418800017408

structure SpSt (n1 n2 : Nat) (B1 B2 : Nat → Nat) (w wr : World) (k : Nat) (t nn res : Value) : Prop where
  ext : Ext w wr
  size : w.heap.size + 1 ≤ wr.heap.size
  out : ResAt wr w.heap.size
  zero : k = 0 → t = .int .u8 0 ∧ nn = .int .i64 0 ∧ res = .slice none 0 0
  more : k ≠ 0 → t = .int .u8 4 ∧ nn = .int .i64 n1 ∧ ∃ R, w.heap.size < R ∧ res = .slice (some ⟨R, 0, none⟩) n1 n1 ∧ FRow wr R n1 (if k = 1 then B1 else B2)
  same : k = 2 → n1 = n2

def SpRel (es : List (Nat × Value)) (n1 n2 : Nat) (B1 B2 : Nat → Nat) (w wr : World) (t nn res sm tok : Value) (g : Nat) : Prop :=
  ∃ k : Nat, k ≤ 2 ∧ g + k = 2 ∧ tok = elp es k ∧ sm = .float .f64 0 ∧ SpSt n1 n2 B1 B2 w wr k t nn res

def InitSt (R n : Nat) (w wr : World) (i : Value) : Prop := ∃ k : Nat, k ≤ n ∧ i = .int .i64 k ∧ Keeps [R] w wr ∧ FRow wr R n (fun i => if i < k then oneW else 0)

def MulSt (R n : Nat) (a b : Nat → Nat) (w wr : World) (i : Value) : Prop := ∃ k : Nat, k ≤ n ∧ i = .int .i64 k ∧ Keeps [R] w wr ∧ FRow wr R n (fun i => if i < k then b i else a i)

def AddSt (n : Nat) (S : Nat → Int) (w wr : World) (s i : Value) : Prop := ∃ k : Nat, k ≤ n ∧ i = .int .i64 k ∧ Ext w wr ∧ s = .float .f64 (f16 (S k))

/-- What sumproduct says of two matrices of words. -/
def spRes (n1 n2 : Nat) (T : Int) : Iv := if n1 = n2 then ⟨1, f16 T, ⟨#[]⟩⟩ else ⟨4, 0, ⟨#[35, 86, 65, 76, 85, 69, 33]⟩⟩

theorem step_fn (f g : Nat → Nat) (k i : Nat) : (if i = k then g k else (if i < k then g i else f i)) = (if i < k + 1 then g i else f i) := by
  by_cases h : i = k
  · subst h; rw [if_pos rfl, if_pos (by omega)]
  · rw [if_neg h]
    by_cases h2 : i < k
    · rw [if_pos h2, if_pos (by omega)]
    · rw [if_neg h2, if_neg (by omega)]

@[go_sem] theorem nil_floats (w : World) : (binOp .eql 103 (.slice none 0 0) (.slice none 0 0)).run Tryz.prog w = .ok (.bool true) w := rfl
@[go_sem] theorem some_floats (w : World) (a : Addr) (n c : Nat) : (binOp .eql 103 (.slice (some a) n c) (.slice none 0 0)).run Tryz.prog w = .ok (.bool false) w := rfl

set_option maxHeartbeats 12800000 in
theorem fn_sp (fb b B : Nat) (es : List (Nat × Value)) (ps : List (Array Value × Vt Iv)) (r1 r2 : List (List Iv)) (n1 n2 : Nat) (B1 B2 : Nat → Nat) (S : Nat → Int) (w : World)
    (h : FArgs w b B es ps) (hv : vts ps = [.mat r1, .mat r2]) (hn1 : r1.flatten.length = n1) (hn2 : r2.flatten.length = n2) (hl1 : n1 ≤ 1000) (hl2 : n2 ≤ 1000)
    (h1 : ∀ i x, r1.flatten[i]? = some x → CellW x oneW (B1 i)) (h2 : n1 = n2 → ∀ i x, r2.flatten[i]? = some x → CellW x (B1 i) (B2 i))
    (hs : n1 = n2 → S 0 = 0 ∧ (∀ k, k < n1 → Ieee.double.add (f16 (S k)) (B2 k) = some (f16 (S (k + 1)))) ∧ -2 ^ 53 < S n1 ∧ S n1 < 2 ^ 53) :
    Calls Tryz.prog 45 #[ptr fb, ptr b] w (Gives w (.agg (innerC (spRes n1 n2 (S n1))))) := by
  have hpl : ps.length = 2 := by
    have := congrArg List.length hv
    simpa only [vts, List.length_map, List.length_cons, List.length_nil] using this
  have hesl := h.len
  have HA := Lib.hid h
  have HV := Lib.hid hv; have HC1 := Lib.hid h1; have HC2 := Lib.hid h2; have HS := Lib.hid hs
  have HN1 := Lib.hid hn1; have HN2 := Lib.hid hn2
  clear h hv h1 h2 hs hn1 hn2
  go_enter Tryz.func45, Tryz.ntmps45
  go_wp2_with fail
  refine (front_es _ b es _ (HA.out.es.ext (by repeat (first | with_reducible exact Below.refl _ _ | with_reducible assumption | ((with_reducible refine Below.setCell ?_ ?_ _); rotate_left; (simp; try omega)) | (with_reducible refine Ext.tr ?_ (by with_reducible assumption)) | (with_reducible refine Ext.al ?_ _) | (with_reducible refine below_drewN ?_ _) | (with_reducible refine Below.drew ?_))))).mono ?_
  rintro e w1 ⟨rfl, rfl⟩
  go_wp2
  go_loopg [5, 6, 7, 8, 9] 2 (fun gk t nn res sm tok wr => SpRel es n1 n2 B1 B2 w wr t nn res sm tok gk)
  case atStart =>
    refine ⟨0, by omega, rfl, rfl, rfl, ⟨(by repeat (first | with_reducible exact Below.refl _ _ | with_reducible assumption | ((with_reducible refine Below.setCell ?_ ?_ _); rotate_left; (simp; try omega)) | (with_reducible refine Ext.tr ?_ (by with_reducible assumption)) | (with_reducible refine Ext.al ?_ _) | (with_reducible refine below_drewN ?_ _) | (with_reducible refine Below.drew ?_))), by simp, ?_, fun _ => ⟨rfl, rfl, rfl⟩, fun h => absurd rfl h, fun h => by cases h⟩⟩
    exact heap_alloc_new _ _ _ rfl
  case round =>
    obtain ⟨k, hk, hgk, htok, rfl, hst⟩ := hrel
    have HST := Lib.hid hst
    have hb := hst.ext
    obtain ⟨hrc, hrf⟩ := hst.out.facts
    have hsz := hst.size
    have hR1 : w.heap.size < wr.heap.size := by omega
    have HAR := Lib.hid (HA.out.ext hb)
    clear hst
    by_cases hlt : k < 2
    · obtain ⟨p, Hp⟩ := elem_at (show k < ps.length by omega)
      obtain ⟨n, hes, hel⟩ := HAR.out.es.elem (show (ps.map Prod.fst)[k]? = some p.1 by rw [List.getElem?_map, Hp.out]; rfl)
      have htok2 : elp es k = ptr n := by unfold elp; rw [hes]
      rw [htok2] at htok
      subst htok
      clear htok2
      unfold ElemAt at hel
      have hnl := lt_of_cell hel
      have hvk : (vts ps)[k]? = some p.2 := by unfold vts; rw [List.getElem?_map, Hp.out]; rfl
      rw [HV.out] at hvk
      have HES := Lib.hid hes
      obtain ⟨L, H, hH, _, hfa⟩ := HAR.out.2.2.2.2 k p Hp.out
      rcases (show k = 0 ∨ k = 1 by omega) with rfl | rfl
      · have e2 : Vt.mat r1 = p.2 := by simpa using hvk
        obtain ⟨p1, p2⟩ := p
        subst e2
        obtain ⟨hne, _, b', c', q1, q2, hp1, _, _, _, _, _, _, hml, hll1, hll2⟩ := hfa
        have e1 : p1 = matC b' r1.length c' q1 q2 := hp1
        subst e1
        obtain ⟨rfl, rfl, rfl⟩ := HST.out.zero rfl
        have hfne : r1.flatten ≠ [] := by
          intro h0
          have h3 := rows_le_flatten (rows := r1) (fun row hr => by
            obtain ⟨i, hi⟩ := List.getElem?_of_mem hr
            exact (hml i row hi).1)
          rw [h0] at h3
          exact hne (List.eq_nil_of_length_eq_zero (by simpa using h3))
        have HT := Lib.hid (fun (w' : World) (hw : Ext wr w') => toList_mat r1 L H b' c' q1 q2 w' hne (by rw [HN1.out]; exact hl1) (hml.ext hw))
        have hn0 : n1 ≠ 0 := by
          have := List.length_pos_iff.2 hfne
          have := HN1.out
          omega
        clear hml hll1 hll2 hvk
        go_wp2_with fail
        refine (HT.out _ ((Ext.rf _).al _)).mono ?_
        rintro e w2 ⟨v, rfl, hown, hb2⟩
        obtain ⟨g, cap, hv, hg, hgl⟩ := GOwns.lie innerL_len hown hfne
        rw [HN1.out] at hv
        subst hv
        have hgs := (World.ownsRow.lt hown g rfl).2
        have HG := Lib.hid hgl
        have hbw2 : Ext wr w2 := ((Ext.rf wr).al _).tr hb2
        clear hown hgl
        obtain ⟨fi, hi, hz0, hz1, hz2⟩ := info64_parts
        go_wp2_with (at_make; refine wpList_make_full _ rfl _ _ 103 rfl w.heap.size 39 fi (.float .f64 0) 1 Tryz.underlying103 hi hz0 hz1 _ _ _ _ n1 rfl rfl rfl rfl (by rw [hz2]; omega) (by unfold maxLen; omega) (by have := hbw2.size; omega) ?_; intro w3 how3 hgr3)
        have hb23 : Ext w2 w3 := Below.grown (Ext.rf w2) hgr3 (Nat.le_refl _) (fun q hq => by cases hq)
        have hfr0 := frow_of_owns how3 hn0
        have HFR0 := Lib.hid hfr0
        have hbw3 : Ext wr w3 := hbw2.tr hb23
        have hgR : g < w2.heap.size := hgs
        have HGB0 := Lib.hid (HG.out.ext hb23)
        obtain ⟨R, hR⟩ : ∃ R, w2.heap.size = R := ⟨_, rfl⟩
        rw [hR] at HFR0 hgR ⊢
        have hwR : w.heap.size < R := by have := hbw2.size; omega
        have hRw3 : R < w3.heap.size := HFR0.out.lt
        have HRB := Lib.hid (show wr.heap.size ≤ R by have := hbw2.size; omega)
        clear how3 hgr3 hfr0 hi hz0 hz1 hz2 hR
        generalize wr = wo at *
        go_loopw [66] (fun i wq => InitSt R n1 w3 wq i) (fun i _ => n1 - (intOf i).toNat)
        case atStart => exact ⟨0, Nat.zero_le _, rfl, Keeps.of_ext (Ext.rf _), HFR0.out.congr (fun i hi => by simp)⟩
        case round =>
          generalize wr = wi at *
          obtain ⟨k, hk, hi, hki, hfi⟩ := hrel
          subst hi
          have HKI := Lib.hid hki; have HFI := Lib.hid hfi
          have hRi : R < wi.heap.size := hfi.lt
          by_cases hkl : k < n1
          · have hci := hfi.cell hkl
            have hfri := hfi.free
            clear hfi hki
            go_wp2
            go_roundw
            case rel => exact ⟨k + 1, by omega, by go_num, HKI.out.setCell _ _, (HFI.out.set k oneW).congr (fun i hi => step_fn (fun _ => 0) (fun _ => oneW) k i)⟩
            case measure => simp [intOf]; omega
          · have hkn : n1 = k := by omega
            subst hkn
            have hfb := hfi.congr (g := fun _ => oneW) (fun i hi => by simp [hi])
            have HFR := Lib.hid hfb
            have HGB := Lib.hid (show GLie innerL 10 wi g 0 r1.flatten from HGB0.out.blk (hki.block g (by omega) (by simp; omega)))
            have hwb : Ext wo wi := hki.ext hbw3 (fun q hq => by have e : q = R := by simpa using hq
                                                                 have := HRB.out; omega)
            have HWB := Lib.hid hwb
            have hbwb : Ext w wi := hb.tr hwb
            clear hfi hki hfb hwb
            go_wp2
            generalize wi = wb at *
            go_loopw [80] (fun i wq => MulSt R n1 (fun _ => oneW) B1 wb wq i) (fun i _ => n1 - (intOf i).toNat)
            case atStart => exact ⟨0, Nat.zero_le _, rfl, Keeps.of_ext (Ext.rf _), HFR.out.congr (fun i hi => by simp)⟩
            case round =>
              generalize wr = wm at *
              obtain ⟨k, hk, hi, hkm, hfm⟩ := hrel
              subst hi
              have HKM := Lib.hid hkm; have HFM := Lib.hid hfm
              have hszm := hkm.size
              by_cases hkl : k < n1
              · have hci := hfm.cell hkl
                have hfri := hfm.free
                simp only [Nat.lt_irrefl, if_false] at hci
                obtain ⟨x, Hx⟩ := elem_at (show k < r1.flatten.length by rw [HN1.out]; exact hkl)
                have hgm : GLie innerL 10 wm g 0 r1.flatten := HGB.out.blk (hkm.block g (by omega) (by simp; omega))
                obtain ⟨f, hxf, hmul⟩ := HC1.out k x Hx.out
                have hmu := fun w => run_float_arith (P := Tryz.prog) w .mul 39 .f64 oneW f (B1 k) hmul
                have hRm : R < wm.heap.size := hfm.lt
                have hglm : g < wm.heap.size := by omega
                clear hfm hkm hmul
                rcases hxf with ⟨rfl, rfl⟩ | ⟨rfl, hft⟩
                · obtain ⟨c0, c1, c2, c3, c4, c5, c6, c7, c8, c9⟩ := fa_cells hgm Hx.out (by rfl)
                  clear hgm
                  go_wp2_with fail
                  refine (toNumber_empty _).mono ?_
                  rintro e w7 ⟨rfl, hb7⟩
                  have hb7m : Ext wm w7 := Ext.tr (by repeat (first | with_reducible exact Below.refl _ _ | with_reducible assumption | ((with_reducible refine Below.setCell ?_ ?_ _); rotate_left; (simp; try omega)) | (with_reducible refine Ext.tr ?_ (by with_reducible assumption)) | (with_reducible refine Ext.al ?_ _) | (with_reducible refine below_drewN ?_ _) | (with_reducible refine Below.drew ?_))) hb7
                  have hb8 : Ext wm (w7.alloc (.cells (fnumC 0) 63)) := Ext.al hb7m _
                  have hn8 : (w7.alloc (.cells (fnumC 0) 63)).cell? ⟨w7.heap.size, 1, none⟩ = some (.float .f64 0) := by simp [go_sem]
                  go_wp2_with fail
                  generalize w7.alloc (.cells (fnumC 0) 63) = w8 at hb8 hn8 ⊢
                  have hci := hb8.get hci
                  have hfri := (HFM.out.ext hb8).free
                  have hR8 : R < w8.heap.size := by have := hb8.size; omega
                  have HF8 := Lib.hid (HFM.out.ext hb8)
                  have HK8 := Lib.hid (HKM.out.tr (Keeps.of_ext hb8))
                  go_still_tail 10, (by kernel_rfl)
                  change wpList _ _ _ _ _ w8.drew
                  have hcd : w8.drew.cell? ⟨R, k, none⟩ = some (.float .f64 ((fun _ => oneW) k)) := hci
                  have HF9 := Lib.hid (show FRow w8.drew R n1 (fun i => if i < k then B1 i else (fun _ => oneW) i) from HF8.out)
                  have HK9 := Lib.hid (HK8.out.tr (Keeps.of_ext (Below.drew (Ext.rf w8))))
                  have hfrd := HF9.out.free
                  generalize w8.drew = w9 at hcd HF9 HK9 hfrd ⊢
                  go_wp2
                  go_roundw
                  case rel => exact ⟨k + 1, by omega, by go_num, HK9.out.setCell _ _, (HF9.out.set k (B1 k)).congr (fun i hi => step_fn (fun _ => oneW) B1 k i)⟩
                  case measure => simp [intOf]; omega
                · obtain ⟨c0, c1, c2, c3, c4, c5, c6, c7, c8, c9⟩ := fa_cells hgm Hx.out (by rfl)
                  have HTN := Lib.hid (fun w' => toNumber_num f false w' hft)
                  clear hft
                  clear hgm
                  go_wp2_with fail
                  refine (HTN.out _).mono ?_
                  rintro e w7 ⟨rfl, hb7⟩
                  have hb7m : Ext wm w7 := Ext.tr (by repeat (first | with_reducible exact Below.refl _ _ | with_reducible assumption | ((with_reducible refine Below.setCell ?_ ?_ _); rotate_left; (simp; try omega)) | (with_reducible refine Ext.tr ?_ (by with_reducible assumption)) | (with_reducible refine Ext.al ?_ _) | (with_reducible refine below_drewN ?_ _) | (with_reducible refine Below.drew ?_))) hb7
                  have hb8 : Ext wm (w7.alloc (.cells (fnumC f) 63)) := Ext.al hb7m _
                  have hn8 : (w7.alloc (.cells (fnumC f) 63)).cell? ⟨w7.heap.size, 1, none⟩ = some (.float .f64 f) := by simp [go_sem]
                  go_wp2_with fail
                  generalize w7.alloc (.cells (fnumC f) 63) = w8 at hb8 hn8 ⊢
                  have hci := hb8.get hci
                  have hfri := (HFM.out.ext hb8).free
                  have hR8 : R < w8.heap.size := by have := hb8.size; omega
                  have HF8 := Lib.hid (HFM.out.ext hb8)
                  have HK8 := Lib.hid (HKM.out.tr (Keeps.of_ext hb8))
                  go_still_tail 10, (by kernel_rfl)
                  change wpList _ _ _ _ _ w8.drew
                  have hcd : w8.drew.cell? ⟨R, k, none⟩ = some (.float .f64 ((fun _ => oneW) k)) := hci
                  have HF9 := Lib.hid (show FRow w8.drew R n1 (fun i => if i < k then B1 i else (fun _ => oneW) i) from HF8.out)
                  have HK9 := Lib.hid (HK8.out.tr (Keeps.of_ext (Below.drew (Ext.rf w8))))
                  have hfrd := HF9.out.free
                  generalize w8.drew = w9 at hcd HF9 HK9 hfrd ⊢
                  go_wp2
                  go_roundw
                  case rel => exact ⟨k + 1, by omega, by go_num, HK9.out.setCell _ _, (HF9.out.set k (B1 k)).congr (fun i hi => step_fn (fun _ => oneW) B1 k i)⟩
                  case measure => simp [intOf]; omega
              · have hfe := hfm.congr (g := B1) (fun i hi => by rw [if_pos (show i < k by omega)])
                have HFE := Lib.hid hfe
                have hwm : Ext w wm := hkm.ext hbwb (fun q hq => by have e : q = R := by simpa using hq
                                                                    omega)
                have hrm : ResAt wm w.heap.size := by
                  have hr : ResAt wb w.heap.size := by
                    have h0 := HST.out.out
                    unfold ResAt at h0 ⊢
                    rw [HWB.out.block w.heap.size hR1]; exact h0
                  unfold ResAt at hr ⊢
                  rw [hkm.block w.heap.size (by have := HWB.out.size; omega) (by simp; omega)]; exact hr
                have HRM := Lib.hid hrm
                have hszw : w.heap.size + 1 ≤ wm.heap.size := by have := HWB.out.size; omega
                clear hfe hfm hkm hrm
                go_wp2_with fail
                refine (next_es wm b es _ (HA.out.ext hwm).es 0 n _ HES.out).mono ?_
                rintro e w7 ⟨rfl, rfl⟩
                go_wp2
                go_roundg 1
                case measure => omega
                case rel => exact ⟨0 + 1, by omega, by omega, rfl, rfl, ⟨hwm, hszw, HRM.out, fun h => by omega, fun _ => ⟨rfl, rfl, R, hwR, rfl, HFE.out⟩, fun h => by omega⟩⟩
      · have e2 : Vt.mat r2 = p.2 := by simpa using hvk
        obtain ⟨p1, p2⟩ := p
        subst e2
        obtain ⟨hne, _, b', c', q1, q2, hp1, _, _, _, _, _, _, hml, hll1, hll2⟩ := hfa
        have e1 : p1 = matC b' r2.length c' q1 q2 := hp1
        subst e1
        obtain ⟨rfl, rfl, R, hwR, rfl, hfr1⟩ := HST.out.more (by decide)
        rw [if_pos rfl] at hfr1
        have hfne : r2.flatten ≠ [] := by
          intro h0
          have h3 := rows_le_flatten (rows := r2) (fun row hr => by
            obtain ⟨i, hi⟩ := List.getElem?_of_mem hr
            exact (hml i row hi).1)
          rw [h0] at h3
          exact hne (List.eq_nil_of_length_eq_zero (by simpa using h3))
        have HT := Lib.hid (fun (w' : World) (hw : Ext wr w') => toList_mat r2 L H b' c' q1 q2 w' hne (by rw [HN2.out]; exact hl2) (hml.ext hw))
        have hRr : R < wr.heap.size := hfr1.lt
        have HFR1 := Lib.hid hfr1
        clear hml hll1 hll2 hvk hfr1
        by_cases hnn : n1 = n2
        · have hne1 : ((n2 : Int) != (n1 : Int)) = false := by rw [bne_eq_false_iff_eq, hnn]
          have HNN := Lib.hid hnn
          clear hnn
          go_wp2_with fail
          refine (HT.out _ ((Ext.rf _).al _)).mono ?_
          rintro e w2 ⟨v, rfl, hown, hb2⟩
          obtain ⟨g, cap, hv, hg, hgl⟩ := GOwns.lie innerL_len hown hfne
          rw [HN2.out, ← HNN.out] at hv
          subst hv
          have hgs := (World.ownsRow.lt hown g rfl).2
          have hbw2 : Ext wr w2 := ((Ext.rf wr).al _).tr hb2
          have HGB := Lib.hid hgl
          have HFR := Lib.hid (HFR1.out.ext hbw2)
          have HWB := Lib.hid hbw2
          have hbwb : Ext w w2 := hb.tr hbw2
          have hgR : R < g := by
            have h9 := hg
            simp at h9
            omega
          have hRb : R < w2.heap.size := HFR.out.lt
          clear hown hgl hne1
          have hne1 : ((n1 : Int) != (n1 : Int)) = false := by rw [bne_eq_false_iff_eq]
          go_wp2
          generalize wr = wo at *
          generalize w2 = wb at *
          go_loopw [80] (fun i wq => MulSt R n1 B1 B2 wb wq i) (fun i _ => n1 - (intOf i).toNat)
          case atStart => exact ⟨0, Nat.zero_le _, rfl, Keeps.of_ext (Ext.rf _), HFR.out.congr (fun i hi => by simp)⟩
          case round =>
            generalize wr = wm at *
            obtain ⟨k, hk, hi, hkm, hfm⟩ := hrel
            subst hi
            have HKM := Lib.hid hkm; have HFM := Lib.hid hfm
            have hszm := hkm.size
            by_cases hkl : k < n1
            · have hci := hfm.cell hkl
              have hfri := hfm.free
              simp only [Nat.lt_irrefl, if_false] at hci
              obtain ⟨x, Hx⟩ := elem_at (show k < r2.flatten.length by rw [HN2.out, ← HNN.out]; exact hkl)
              have hgm : GLie innerL 10 wm g 0 r2.flatten := HGB.out.blk (hkm.block g (by omega) (by simp; omega))
              obtain ⟨f, hxf, hmul⟩ := HC2.out HNN.out k x Hx.out
              have hmu := fun w => run_float_arith (P := Tryz.prog) w .mul 39 .f64 (B1 k) f (B2 k) hmul
              have hRm : R < wm.heap.size := hfm.lt
              have hglm : g < wm.heap.size := by omega
              clear hfm hkm hmul
              rcases hxf with ⟨rfl, rfl⟩ | ⟨rfl, hft⟩
              · obtain ⟨c0, c1, c2, c3, c4, c5, c6, c7, c8, c9⟩ := fa_cells hgm Hx.out (by rfl)
                clear hgm
                go_wp2_with fail
                refine (toNumber_empty _).mono ?_
                rintro e w7 ⟨rfl, hb7⟩
                have hb7m : Ext wm w7 := Ext.tr (by repeat (first | with_reducible exact Below.refl _ _ | with_reducible assumption | ((with_reducible refine Below.setCell ?_ ?_ _); rotate_left; (simp; try omega)) | (with_reducible refine Ext.tr ?_ (by with_reducible assumption)) | (with_reducible refine Ext.al ?_ _) | (with_reducible refine below_drewN ?_ _) | (with_reducible refine Below.drew ?_))) hb7
                have hb8 : Ext wm (w7.alloc (.cells (fnumC 0) 63)) := Ext.al hb7m _
                have hn8 : (w7.alloc (.cells (fnumC 0) 63)).cell? ⟨w7.heap.size, 1, none⟩ = some (.float .f64 0) := by simp [go_sem]
                go_wp2_with fail
                generalize w7.alloc (.cells (fnumC 0) 63) = w8 at hb8 hn8 ⊢
                have hci := hb8.get hci
                have hfri := (HFM.out.ext hb8).free
                have hR8 : R < w8.heap.size := by have := hb8.size; omega
                have HF8 := Lib.hid (HFM.out.ext hb8)
                have HK8 := Lib.hid (HKM.out.tr (Keeps.of_ext hb8))
                go_still_tail 10, (by kernel_rfl)
                change wpList _ _ _ _ _ w8.drew
                have hcd : w8.drew.cell? ⟨R, k, none⟩ = some (.float .f64 (B1 k)) := hci
                have HF9 := Lib.hid (show FRow w8.drew R n1 (fun i => if i < k then B2 i else B1 i) from HF8.out)
                have HK9 := Lib.hid (HK8.out.tr (Keeps.of_ext (Below.drew (Ext.rf w8))))
                have hfrd := HF9.out.free
                generalize w8.drew = w9 at hcd HF9 HK9 hfrd ⊢
                go_wp2
                go_roundw
                case rel => exact ⟨k + 1, by omega, by go_num, HK9.out.setCell _ _, (HF9.out.set k (B2 k)).congr (fun i hi => step_fn B1 B2 k i)⟩
                case measure => simp [intOf]; omega
              · obtain ⟨c0, c1, c2, c3, c4, c5, c6, c7, c8, c9⟩ := fa_cells hgm Hx.out (by rfl)
                have HTN := Lib.hid (fun w' => toNumber_num f false w' hft)
                clear hft
                clear hgm
                go_wp2_with fail
                refine (HTN.out _).mono ?_
                rintro e w7 ⟨rfl, hb7⟩
                have hb7m : Ext wm w7 := Ext.tr (by repeat (first | with_reducible exact Below.refl _ _ | with_reducible assumption | ((with_reducible refine Below.setCell ?_ ?_ _); rotate_left; (simp; try omega)) | (with_reducible refine Ext.tr ?_ (by with_reducible assumption)) | (with_reducible refine Ext.al ?_ _) | (with_reducible refine below_drewN ?_ _) | (with_reducible refine Below.drew ?_))) hb7
                have hb8 : Ext wm (w7.alloc (.cells (fnumC f) 63)) := Ext.al hb7m _
                have hn8 : (w7.alloc (.cells (fnumC f) 63)).cell? ⟨w7.heap.size, 1, none⟩ = some (.float .f64 f) := by simp [go_sem]
                go_wp2_with fail
                generalize w7.alloc (.cells (fnumC f) 63) = w8 at hb8 hn8 ⊢
                have hci := hb8.get hci
                have hfri := (HFM.out.ext hb8).free
                have hR8 : R < w8.heap.size := by have := hb8.size; omega
                have HF8 := Lib.hid (HFM.out.ext hb8)
                have HK8 := Lib.hid (HKM.out.tr (Keeps.of_ext hb8))
                go_still_tail 10, (by kernel_rfl)
                change wpList _ _ _ _ _ w8.drew
                have hcd : w8.drew.cell? ⟨R, k, none⟩ = some (.float .f64 (B1 k)) := hci
                have HF9 := Lib.hid (show FRow w8.drew R n1 (fun i => if i < k then B2 i else B1 i) from HF8.out)
                have HK9 := Lib.hid (HK8.out.tr (Keeps.of_ext (Below.drew (Ext.rf w8))))
                have hfrd := HF9.out.free
                generalize w8.drew = w9 at hcd HF9 HK9 hfrd ⊢
                go_wp2
                go_roundw
                case rel => exact ⟨k + 1, by omega, by go_num, HK9.out.setCell _ _, (HF9.out.set k (B2 k)).congr (fun i hi => step_fn B1 B2 k i)⟩
                case measure => simp [intOf]; omega
            · have hfe := hfm.congr (g := B2) (fun i hi => by rw [if_pos (show i < k by omega)])
              have HFE := Lib.hid hfe
              have hwm : Ext w wm := hkm.ext hbwb (fun q hq => by have e : q = R := by simpa using hq
                                                                  omega)
              have hrm : ResAt wm w.heap.size := by
                have hr : ResAt wb w.heap.size := by
                  have h0 := HST.out.out
                  unfold ResAt at h0 ⊢
                  rw [HWB.out.block w.heap.size hR1]; exact h0
                unfold ResAt at hr ⊢
                rw [hkm.block w.heap.size (by have := HWB.out.size; omega) (by simp; omega)]; exact hr
              have HRM := Lib.hid hrm
              have hszw : w.heap.size + 1 ≤ wm.heap.size := by have := HWB.out.size; omega
              clear hfe hfm hkm hrm
              go_wp2_with fail
              refine (next_es wm b es _ (HA.out.ext hwm).es 1 n _ HES.out).mono ?_
              rintro e w7 ⟨rfl, rfl⟩
              go_wp2
              go_roundg 0
              case measure => omega
              case rel => exact ⟨1 + 1, by omega, by omega, rfl, rfl, ⟨hwm, hszw, HRM.out, fun h => by omega, fun _ => ⟨rfl, rfl, R, hwR, rfl, HFE.out⟩, fun _ => HNN.out⟩⟩
        · have hne1 : ((n2 : Int) != (n1 : Int)) = true := by rw [bne_iff_ne]; omega
          have hres : innerC (spRes n1 n2 (S n1)) = ferrC ⟨#[35, 86, 65, 76, 85, 69, 33]⟩ ⟨#[35, 86, 65, 76, 85, 69, 33]⟩ := by unfold spRes; rw [if_neg hnn]; rfl
          have HRES := Lib.hid hres
          clear hnn hres
          go_wp2_with fail
          refine (HT.out _ ((Ext.rf _).al _)).mono ?_
          rintro e w2 ⟨v, rfl, hown, hb2⟩
          obtain ⟨g, cap, hv, hg, hgl⟩ := GOwns.lie innerL_len hown hfne
          rw [HN2.out] at hv
          subst hv
          have hbw2 : Ext wr w2 := ((Ext.rf wr).al _).tr hb2
          have hzw : w.heap.size < w2.heap.size := by have := hbw2.size; omega
          have hrw : ResAt w2 w.heap.size := by
            have h0 := HST.out.out
            unfold ResAt at h0 ⊢
            rw [hbw2.block w.heap.size hR1]; exact h0
          obtain ⟨hrc2, hrf2⟩ := hrw.facts
          clear hown hgl hrw hrc hrf
          go_wp2_with fail
          refine (newError_any _ _ _).mono ?_
          rintro e w9 ⟨rfl, hb9⟩
          (obtain ⟨hc9, hf9, hz9⟩ := ext_facts hb9; (try simp at hz9); (have hq9_0 : w.heap.size < w9.heap.size := by omega); (have hl9_0 : w.heap.size ≤ w9.heap.size := by omega); (have hr9_0 := fun o => hc9 (w.heap.size) o (by first | omega | (simp; done) | (simp; omega))); (have hs9_0 := fun o => hf9 (w.heap.size) o (by first | omega | (simp; done) | (simp; omega))); (try simp (disch := first | omega | (simp; omega)) only [World.cell?_alloc_past, World.cell?_drew] at hr9_0); (try simp (disch := first | omega | (simp; omega)) only [World.frozen?_alloc_past, World.frozen?_drew] at hs9_0); clear hc9 hf9)
          have hbw9 : Ext w w9 := (hb.tr hbw2).tr hb9
          go_wp2
          refine bodyPost_ret (v := .agg (innerC (spRes n1 n2 (S n1)))) (by rw [HRES.out]; simp [results, Tryz.results45, go_sem, *]) rfl ⟨rfl, (by repeat (first | with_reducible exact Below.refl _ _ | with_reducible assumption | ((with_reducible refine Below.setCell ?_ ?_ _); rotate_left; (simp; try omega)) | (with_reducible refine Ext.tr ?_ (by with_reducible assumption)) | (with_reducible refine Ext.al ?_ _) | (with_reducible refine below_drewN ?_ _) | (with_reducible refine Below.drew ?_)))⟩
    · have hk2 : 2 = k := by omega
      subst hk2
      have htok2 : elp es 2 = .pointer none := by unfold elp; rw [List.getElem?_eq_none (by omega)]
      rw [htok2] at htok
      subst htok
      obtain ⟨rfl, rfl, R, hwR, rfl, hfr1⟩ := HST.out.more (by decide)
      rw [if_neg (by decide)] at hfr1
      have HFR := Lib.hid hfr1
      have hRr : R < wr.heap.size := hfr1.lt
      clear hfr1 htok2
      have hnn := HST.out.same rfl
      obtain ⟨hs0, hsum, hsb1, hsb2⟩ := HS.out hnn
      have HS0 := Lib.hid hs0; have HSUM := Lib.hid hsum
      have hres : innerC (spRes n1 n2 (S n1)) = fnumC (f16 (S n1)) := by unfold spRes; rw [if_pos hnn]; rfl
      have HRES := Lib.hid hres
      have HN := Lib.hid (fun w' => newNumber_ok (f16 (S n1)) w' (tame_f16 hsb1 hsb2))
      clear hs0 hsum hres hnn hsb1 hsb2
      go_wp2
      generalize wr = wo at *
      go_loopw [8, 109] (fun s i wq => AddSt n1 S wo wq s i) (fun _ i _ => n1 - (intOf i).toNat)
      case atStart => exact ⟨0, Nat.zero_le _, rfl, Ext.rf _, by rw [HS0.out, f16_zero]⟩
      case round =>
        generalize wr = wm at *
        obtain ⟨k, hk, hi, hbm, hsv⟩ := hrel
        subst hi hsv
        by_cases hkl : k < n1
        · have hci := (HFR.out.ext hbm).cell hkl
          have hadd := fun w => run_float_arith (P := Tryz.prog) w .add 39 .f64 (f16 (S k)) (B2 k) (f16 (S (k + 1))) (HSUM.out k hkl)
          go_wp2
          go_roundw
          case rel => exact ⟨k + 1, by omega, by go_num, (by repeat (first | with_reducible exact Below.refl _ _ | with_reducible assumption | ((with_reducible refine Below.setCell ?_ ?_ _); rotate_left; (simp; try omega)) | (with_reducible refine Ext.tr ?_ (by with_reducible assumption)) | (with_reducible refine Ext.al ?_ _) | (with_reducible refine below_drewN ?_ _) | (with_reducible refine Below.drew ?_))), rfl⟩
          case measure => simp [intOf]; omega
        · have hkn : n1 = k := by omega
          subst hkn
          have hrw : ResAt wm w.heap.size := by
            have h0 := HST.out.out
            unfold ResAt at h0 ⊢
            rw [hbm.block w.heap.size hR1]; exact h0
          obtain ⟨hrc2, hrf2⟩ := hrw.facts
          have hzw : w.heap.size < wm.heap.size := by have := hbm.size; omega
          clear hrc hrf hrw
          go_wp2_with fail
          refine (HN.out _).mono ?_
          rintro e w9 ⟨rfl, hb9⟩
          (obtain ⟨hc9, hf9, hz9⟩ := ext_facts hb9; (try simp at hz9); (have hq9_0 : w.heap.size < w9.heap.size := by omega); (have hl9_0 : w.heap.size ≤ w9.heap.size := by omega); (have hr9_0 := fun o => hc9 (w.heap.size) o (by first | omega | (simp; done) | (simp; omega))); (have hs9_0 := fun o => hf9 (w.heap.size) o (by first | omega | (simp; done) | (simp; omega))); (try simp (disch := first | omega | (simp; omega)) only [World.cell?_alloc_past, World.cell?_drew] at hr9_0); (try simp (disch := first | omega | (simp; omega)) only [World.frozen?_alloc_past, World.frozen?_drew] at hs9_0); clear hc9 hf9)
          have hbw9 : Ext w w9 := (hb.tr hbm).tr hb9
          go_wp2
          refine bodyPost_ret (v := .agg (innerC (spRes n1 n2 (S n1)))) (by rw [HRES.out]; simp [results, Tryz.results45, go_sem, *]) rfl ⟨rfl, (by repeat (first | with_reducible exact Below.refl _ _ | with_reducible assumption | ((with_reducible refine Below.setCell ?_ ?_ _); rotate_left; (simp; try omega)) | (with_reducible refine Ext.tr ?_ (by with_reducible assumption)) | (with_reducible refine Ext.al ?_ _) | (with_reducible refine below_drewN ?_ _) | (with_reducible refine Below.drew ?_)))⟩
end Go.Proofs.YtdakljeladhciaaGreatDoor
