/-
  REPT of the package.
-/
import Derived.Test.YtfgfelgdmfpieaaGreatDoorTx
import Derived.Test.YtfgfelgdmfpieaaGreatDoorSb
import Derived.Lib.BufferOld
import Derived.Test.YtfgfelgdmfpieaaGreatDoorRp
namespace Go.Proofs.YtfgfelgdmfpieaaGreatDoor
set_option linter.unusedSimpArgs false
set_option linter.unusedVariables false
open Go Go.RowKit
set_option maxRecDepth 100000

set_option maxHeartbeats 400000 in
theorem value_text (s : ByteArray) (w : World) : Calls Tryz.prog 42 #[.agg (fstrC s)] w (Gives w (.string s)) := by
  go_enter Tryz.func42, Tryz.ntmps42
  go_wp2
  exact bodyPost_ret (v := .string s) (by simp [results, Tryz.results42, go_sem, *]) rfl ⟨rfl, (by repeat (first | with_reducible exact Below.refl _ _ | with_reducible assumption | ((with_reducible refine Below.setCell ?_ ?_ _); rotate_left; (simp; try omega)) | (with_reducible refine Ext.tr ?_ (by with_reducible assumption)) | (with_reducible refine Ext.al ?_ _) | (with_reducible refine below_drewN ?_ _) | (with_reducible refine Below.drew ?_)))⟩

theorem rlt_true {a : Int} (h : a < 0) (h1 : -2 ^ 53 < a) : (FloatKind.f64.format.order (Fl.fx 0 a) 0 == some Ordering.lt) = true := by
  have e := order_fx0 (a := a) (b := 0) h1 (by omega) (by omega) (by omega)
  rw [show Fl.fx 0 0 = 0 by decide] at e
  rw [e, cmp_lt h]; rfl
theorem rlt_false {a : Int} (h : 0 ≤ a) (h2 : a < 2 ^ 53) : (FloatKind.f64.format.order (Fl.fx 0 a) 0 == some Ordering.lt) = false := by
  have e := order_fx0 (a := a) (b := 0) (by omega) h2 (by omega) (by omega)
  rw [show Fl.fx 0 0 = 0 by decide] at e
  rw [e]
  rcases (show a = 0 ∨ 0 < a by omega) with h | h
  · rw [cmp_eq h]; rfl
  · rw [cmp_gt h]; rfl
theorem req_false {a : Int} (h : 0 < a) (h2 : a < 2 ^ 53) : (FloatKind.f64.format.order (Fl.fx 0 a) 0 == some Ordering.eq) = false := by
  have e := order_fx0 (a := a) (b := 0) (by omega) h2 (by omega) (by omega)
  rw [show Fl.fx 0 0 = 0 by decide] at e
  rw [e, cmp_gt h]; rfl
theorem conv_fx {n : Int} (h1 : -2 ^ 53 < n) (h2 : n < 2 ^ 53) (w : World) : (convert 37 3 (.float .f64 (Fl.fx 0 n))).run Tryz.prog w = .ok (.int .i64 n) w := by
  refine run_convert_float_int w 37 3 .f64 .i64 (Fl.fx 0 n) n (by kernel_rfl) Tryz.underlying3 ?_
  have h := Fl.toInt_fx h1 h2
  unfold floatToIntVal
  rw [show (FloatKind.f64.decode (Fl.fx 0 n)).toInt .zero = some n from h]
  have h3 : IntKind.i64.min = -9223372036854775808 := by decide
  have h4 : IntKind.i64.max = 9223372036854775807 := by decide
  simp only [h3, h4]
  rw [if_pos (by omega)]

set_option maxHeartbeats 1600000 in
theorem rept_neg (s : ByteArray) (n : Int) (fb b B : Nat) (w : World) (h1 : -99999999999 ≤ n) (h2 : n < 0) (h : ArgsAt w b B [fstrC s, fnumC (Fl.fx 0 n)]) :
    Calls Tryz.prog 23 #[ptr fb, ptr b] w (Gives w (ferr ⟨#[35, 86, 65, 76, 85, 69, 33]⟩ ⟨#[82, 69, 80, 84, 32, 114, 101, 113, 117, 105, 114, 101, 115, 32, 115, 101, 99, 111, 110, 100, 32, 97, 114, 103, 117, 109, 101, 110, 116, 32, 116, 111, 32, 98, 101, 32, 62, 61, 32, 48]⟩)) := by
  have HA := Lib.hid h; clear h
  have HT := Lib.hid (tame_fx0 (n := n) (by omega) (by omega))
  have l1 := rlt_true h2 (by omega)
  clear h1 h2
  generalize Fl.fx 0 n = x at *
  go_enter Tryz.func23, Tryz.ntmps23
  (go_wp2_with fail; refine (len_ok _ b B _ (HA.out.ext (by repeat (first | with_reducible exact Below.refl _ _ | with_reducible assumption | ((with_reducible refine Below.setCell ?_ ?_ _); rotate_left; (simp; try omega)) | (with_reducible refine Ext.tr ?_ (by with_reducible assumption)) | (with_reducible refine Ext.al ?_ _) | (with_reducible refine below_drewN ?_ _) | (with_reducible refine Below.drew ?_))))).mono ?_; rintro e w1 ⟨rfl, rfl⟩)
  (go_wp2_with fail; refine (front_ok _ b B _ [fnumC x] (HA.out.ext (by repeat (first | with_reducible exact Below.refl _ _ | with_reducible assumption | ((with_reducible refine Below.setCell ?_ ?_ _); rotate_left; (simp; try omega)) | (with_reducible refine Ext.tr ?_ (by with_reducible assumption)) | (with_reducible refine Ext.al ?_ _) | (with_reducible refine below_drewN ?_ _) | (with_reducible refine Below.drew ?_))))).mono ?_; rintro e w1 ⟨⟨n1, rfl, he⟩, rfl⟩)
  unfold ElemAt at he
  (go_wp2_with fail; refine (back_ok _ b B (fnumC x) [fstrC s] (HA.out.ext (by repeat (first | with_reducible exact Below.refl _ _ | with_reducible assumption | ((with_reducible refine Below.setCell ?_ ?_ _); rotate_left; (simp; try omega)) | (with_reducible refine Ext.tr ?_ (by with_reducible assumption)) | (with_reducible refine Ext.al ?_ _) | (with_reducible refine below_drewN ?_ _) | (with_reducible refine Below.drew ?_))))).mono ?_; rintro e w1 ⟨⟨n2, rfl, he2⟩, rfl⟩)
  unfold ElemAt at he2
  clear he
  (go_wp2_with fail; refine (toNumber_num x false _ HT.out).mono ?_; rintro e w2 ⟨rfl, hb2⟩; obtain ⟨hc2, hf2, hz2⟩ := ext_facts hb2; (try simp at hz2); (have hq2_0 : w.heap.size < w2.heap.size := by omega); (have hl2_0 : w.heap.size ≤ w2.heap.size := by omega); (have hr2_0 := fun o => hc2 (w.heap.size) o (by first | omega | (simp; done) | (simp; omega))); (have hs2_0 := fun o => hf2 (w.heap.size) o (by first | omega | (simp; done) | (simp; omega))); (try simp (disch := first | omega | (simp; omega)) only [World.cell?_alloc_past, World.cell?_drew] at hr2_0); (try simp (disch := first | omega | (simp; omega)) only [World.frozen?_alloc_past, World.frozen?_drew] at hs2_0); clear hc2 hf2)
  clear he2
  (go_wp2_with fail; refine (newError_any _ _ _).mono ?_; rintro e w3 ⟨rfl, hb3⟩; obtain ⟨hc3, hf3, hz3⟩ := ext_facts hb3; (try simp at hz3); (have hq3_0 : w.heap.size < w3.heap.size := by omega); (have hl3_0 : w.heap.size ≤ w3.heap.size := by omega); (have hr3_0 := fun o => hc3 (w.heap.size) o (by first | omega | (simp; done) | (simp; omega))); (have hs3_0 := fun o => hf3 (w.heap.size) o (by first | omega | (simp; done) | (simp; omega))); (try simp (disch := first | omega | (simp; omega)) only [World.cell?_alloc_past, World.cell?_drew] at hr3_0); (try simp (disch := first | omega | (simp; omega)) only [World.frozen?_alloc_past, World.frozen?_drew] at hs3_0); (have hq3_1 : w2.heap.size < w3.heap.size := by omega); (have hl3_1 : w2.heap.size ≤ w3.heap.size := by omega); (have hr3_1 := fun o => hc3 (w2.heap.size) o (by first | omega | (simp; done) | (simp; omega))); (have hs3_1 := fun o => hf3 (w2.heap.size) o (by first | omega | (simp; done) | (simp; omega))); (try simp (disch := first | omega | (simp; omega)) only [World.cell?_alloc_past, World.cell?_drew] at hr3_1); (try simp (disch := first | omega | (simp; omega)) only [World.frozen?_alloc_past, World.frozen?_drew] at hs3_1); clear hc3 hf3)
  go_wp2
  exact bodyPost_ret (v := ferr ⟨#[35, 86, 65, 76, 85, 69, 33]⟩ ⟨#[82, 69, 80, 84, 32, 114, 101, 113, 117, 105, 114, 101, 115, 32, 115, 101, 99, 111, 110, 100, 32, 97, 114, 103, 117, 109, 101, 110, 116, 32, 116, 111, 32, 98, 101, 32, 62, 61, 32, 48]⟩) (by simp [results, Tryz.results23, go_sem, *]) rfl ⟨rfl, (by repeat (first | with_reducible exact Below.refl _ _ | with_reducible assumption | ((with_reducible refine Below.setCell ?_ ?_ _); rotate_left; (simp; try omega)) | (with_reducible refine Ext.tr ?_ (by with_reducible assumption)) | (with_reducible refine Ext.al ?_ _) | (with_reducible refine below_drewN ?_ _) | (with_reducible refine Below.drew ?_)))⟩

set_option maxHeartbeats 1600000 in
theorem rept_zero (s : ByteArray) (fb b B : Nat) (w : World) (h : ArgsAt w b B [fstrC s, fnumC 0]) :
    Calls Tryz.prog 23 #[ptr fb, ptr b] w (Gives w (fstr ⟨#[]⟩)) := by
  have HA := Lib.hid h; clear h
  go_enter Tryz.func23, Tryz.ntmps23
  (go_wp2_with fail; refine (len_ok _ b B _ (HA.out.ext (by repeat (first | with_reducible exact Below.refl _ _ | with_reducible assumption | ((with_reducible refine Below.setCell ?_ ?_ _); rotate_left; (simp; try omega)) | (with_reducible refine Ext.tr ?_ (by with_reducible assumption)) | (with_reducible refine Ext.al ?_ _) | (with_reducible refine below_drewN ?_ _) | (with_reducible refine Below.drew ?_))))).mono ?_; rintro e w1 ⟨rfl, rfl⟩)
  (go_wp2_with fail; refine (front_ok _ b B _ [fnumC 0] (HA.out.ext (by repeat (first | with_reducible exact Below.refl _ _ | with_reducible assumption | ((with_reducible refine Below.setCell ?_ ?_ _); rotate_left; (simp; try omega)) | (with_reducible refine Ext.tr ?_ (by with_reducible assumption)) | (with_reducible refine Ext.al ?_ _) | (with_reducible refine below_drewN ?_ _) | (with_reducible refine Below.drew ?_))))).mono ?_; rintro e w1 ⟨⟨n1, rfl, he⟩, rfl⟩)
  unfold ElemAt at he
  (go_wp2_with fail; refine (back_ok _ b B (fnumC 0) [fstrC s] (HA.out.ext (by repeat (first | with_reducible exact Below.refl _ _ | with_reducible assumption | ((with_reducible refine Below.setCell ?_ ?_ _); rotate_left; (simp; try omega)) | (with_reducible refine Ext.tr ?_ (by with_reducible assumption)) | (with_reducible refine Ext.al ?_ _) | (with_reducible refine below_drewN ?_ _) | (with_reducible refine Below.drew ?_))))).mono ?_; rintro e w1 ⟨⟨n2, rfl, he2⟩, rfl⟩)
  unfold ElemAt at he2
  clear he
  (go_wp2_with fail; refine (toNumber_num 0 false _ tame_zero).mono ?_; rintro e w2 ⟨rfl, hb2⟩; obtain ⟨hc2, hf2, hz2⟩ := ext_facts hb2; (try simp at hz2); (have hq2_0 : w.heap.size < w2.heap.size := by omega); (have hl2_0 : w.heap.size ≤ w2.heap.size := by omega); (have hr2_0 := fun o => hc2 (w.heap.size) o (by first | omega | (simp; done) | (simp; omega))); (have hs2_0 := fun o => hf2 (w.heap.size) o (by first | omega | (simp; done) | (simp; omega))); (try simp (disch := first | omega | (simp; omega)) only [World.cell?_alloc_past, World.cell?_drew] at hr2_0); (try simp (disch := first | omega | (simp; omega)) only [World.frozen?_alloc_past, World.frozen?_drew] at hs2_0); clear hc2 hf2)
  clear he2
  (go_wp2_with fail; refine (newString_any _ _).mono ?_; rintro e w3 ⟨rfl, hb3⟩; obtain ⟨hc3, hf3, hz3⟩ := ext_facts hb3; (try simp at hz3); (have hq3_0 : w.heap.size < w3.heap.size := by omega); (have hl3_0 : w.heap.size ≤ w3.heap.size := by omega); (have hr3_0 := fun o => hc3 (w.heap.size) o (by first | omega | (simp; done) | (simp; omega))); (have hs3_0 := fun o => hf3 (w.heap.size) o (by first | omega | (simp; done) | (simp; omega))); (try simp (disch := first | omega | (simp; omega)) only [World.cell?_alloc_past, World.cell?_drew] at hr3_0); (try simp (disch := first | omega | (simp; omega)) only [World.frozen?_alloc_past, World.frozen?_drew] at hs3_0); (have hq3_1 : w2.heap.size < w3.heap.size := by omega); (have hl3_1 : w2.heap.size ≤ w3.heap.size := by omega); (have hr3_1 := fun o => hc3 (w2.heap.size) o (by first | omega | (simp; done) | (simp; omega))); (have hs3_1 := fun o => hf3 (w2.heap.size) o (by first | omega | (simp; done) | (simp; omega))); (try simp (disch := first | omega | (simp; omega)) only [World.cell?_alloc_past, World.cell?_drew] at hr3_1); (try simp (disch := first | omega | (simp; omega)) only [World.frozen?_alloc_past, World.frozen?_drew] at hs3_1); clear hc3 hf3)
  go_wp2
  exact bodyPost_ret (v := fstr ⟨#[]⟩) (by simp [results, Tryz.results23, go_sem, *]) rfl ⟨rfl, (by repeat (first | with_reducible exact Below.refl _ _ | with_reducible assumption | ((with_reducible refine Below.setCell ?_ ?_ _); rotate_left; (simp; try omega)) | (with_reducible refine Ext.tr ?_ (by with_reducible assumption)) | (with_reducible refine Ext.al ?_ _) | (with_reducible refine below_drewN ?_ _) | (with_reducible refine Below.drew ?_)))⟩

set_option maxHeartbeats 3200000 in
theorem rept_pos (s : ByteArray) (n : Int) (fb b B : Nat) (w : World) (hs : s.size ≤ 1000) (h1 : 0 < n) (h2 : n ≤ 50) (h : ArgsAt w b B [fstrC s, fnumC (Fl.fx 0 n)]) :
    Calls Tryz.prog 23 #[ptr fb, ptr b] w (Gives w (fstr (rep s n.toNat))) := by
  have HA := Lib.hid h; clear h
  have HT := Lib.hid (tame_fx0 (n := n) (by omega) (by omega))
  have l1 := rlt_false (a := n) (by omega) (by omega)
  have l2 := req_false h1 (by omega)
  have l3 := conv_fx (n := n) (by omega) (by omega)
  generalize Fl.fx 0 n = x at *
  go_enter Tryz.func23, Tryz.ntmps23
  (go_wp2_with fail; refine (len_ok _ b B _ (HA.out.ext (by repeat (first | with_reducible exact Below.refl _ _ | with_reducible assumption | ((with_reducible refine Below.setCell ?_ ?_ _); rotate_left; (simp; try omega)) | (with_reducible refine Ext.tr ?_ (by with_reducible assumption)) | (with_reducible refine Ext.al ?_ _) | (with_reducible refine below_drewN ?_ _) | (with_reducible refine Below.drew ?_))))).mono ?_; rintro e w1 ⟨rfl, rfl⟩)
  (go_wp2_with fail; refine (front_ok _ b B _ [fnumC x] (HA.out.ext (by repeat (first | with_reducible exact Below.refl _ _ | with_reducible assumption | ((with_reducible refine Below.setCell ?_ ?_ _); rotate_left; (simp; try omega)) | (with_reducible refine Ext.tr ?_ (by with_reducible assumption)) | (with_reducible refine Ext.al ?_ _) | (with_reducible refine below_drewN ?_ _) | (with_reducible refine Below.drew ?_))))).mono ?_; rintro e w1 ⟨⟨n1, rfl, he⟩, rfl⟩)
  unfold ElemAt at he
  (go_wp2_with fail; refine (back_ok _ b B (fnumC x) [fstrC s] (HA.out.ext (by repeat (first | with_reducible exact Below.refl _ _ | with_reducible assumption | ((with_reducible refine Below.setCell ?_ ?_ _); rotate_left; (simp; try omega)) | (with_reducible refine Ext.tr ?_ (by with_reducible assumption)) | (with_reducible refine Ext.al ?_ _) | (with_reducible refine below_drewN ?_ _) | (with_reducible refine Below.drew ?_))))).mono ?_; rintro e w1 ⟨⟨n2, rfl, he2⟩, rfl⟩)
  unfold ElemAt at he2
  clear he
  (go_wp2_with fail; refine (toNumber_num x false _ HT.out).mono ?_; rintro e w2 ⟨rfl, hb2⟩; obtain ⟨hc2, hf2, hz2⟩ := ext_facts hb2; (try simp at hz2); (have hq2_0 : w.heap.size < w2.heap.size := by omega); (have hl2_0 : w.heap.size ≤ w2.heap.size := by omega); (have hr2_0 := fun o => hc2 (w.heap.size) o (by first | omega | (simp; done) | (simp; omega))); (have hs2_0 := fun o => hf2 (w.heap.size) o (by first | omega | (simp; done) | (simp; omega))); (try simp (disch := first | omega | (simp; omega)) only [World.cell?_alloc_past, World.cell?_drew] at hr2_0); (try simp (disch := first | omega | (simp; omega)) only [World.frozen?_alloc_past, World.frozen?_drew] at hs2_0); (have hq2_1 : w.heap.size + 1 < w2.heap.size := by omega); (have hl2_1 : w.heap.size + 1 ≤ w2.heap.size := by omega); (have hr2_1 := fun o => hc2 (w.heap.size + 1) o (by first | omega | (simp; done) | (simp; omega))); (have hs2_1 := fun o => hf2 (w.heap.size + 1) o (by first | omega | (simp; done) | (simp; omega))); (try simp (disch := first | omega | (simp; omega)) only [World.cell?_alloc_past, World.cell?_drew] at hr2_1); (try simp (disch := first | omega | (simp; omega)) only [World.frozen?_alloc_past, World.frozen?_drew] at hs2_1); clear hc2 hf2)
  clear he2
  have hwz : Ext w (w2.alloc (.cells #[.string ⟨#[]⟩, .float .f64 x, .string ⟨#[]⟩, .slice none 0 0, .slice none 0 0, .bool false, .string ⟨#[]⟩, .int .u8 1, .pointer none, .pointer none] 59)) := (by repeat (first | with_reducible exact Below.refl _ _ | with_reducible assumption | ((with_reducible refine Below.setCell ?_ ?_ _); rotate_left; (simp; try omega)) | (with_reducible refine Ext.tr ?_ (by with_reducible assumption)) | (with_reducible refine Ext.al ?_ _) | (with_reducible refine below_drewN ?_ _) | (with_reducible refine Below.drew ?_)))
  have hI0 := Lib.fresh_isBuffer 85 5 (w2.alloc (.cells #[.string ⟨#[]⟩, .float .f64 x, .string ⟨#[]⟩, .slice none 0 0, .slice none 0 0, .bool false, .string ⟨#[]⟩, .int .u8 1, .pointer none, .pointer none] 59))
  rw [show ((w2.alloc (.cells #[.string ⟨#[]⟩, .float .f64 x, .string ⟨#[]⟩, .slice none 0 0, .slice none 0 0, .bool false, .string ⟨#[]⟩, .int .u8 1, .pointer none, .pointer none] 59))).heap.size = w2.heap.size + 1 by simp] at hI0
  have HI0 := Lib.hid hI0; clear hI0
  have HV := Lib.hid (fun w' => value_text s w')
  go_wp2_with fail
  go_loopw [8] (fun i wr => ∃ k : Nat, (k : Int) ≤ n ∧ i = .int .i64 k ∧ Ext (w2.alloc (.cells #[.string ⟨#[]⟩, .float .f64 x, .string ⟨#[]⟩, .slice none 0 0, .slice none 0 0, .bool false, .string ⟨#[]⟩, .int .u8 1, .pointer none, .pointer none] 59)) wr ∧ Lib.IsBuffer 85 5 (w2.heap.size + 1) (w2.heap.size + 1) (Lib.byteCells (repL s k)) wr) (fun i _ => n.toNat - (intOf i).toNat)
  case atStart => exact ⟨0, by omega, rfl, (Ext.rf _).al _, HI0.out⟩
  case round =>
    obtain ⟨k, hk, rfl, hb, hI⟩ := hrel
    have HI := Lib.hid hI; clear hI
    have hsz := hb.size
    simp only [World.size_alloc] at hsz
    obtain ⟨hcA, hfA, hzA⟩ := ext_facts hb
    have hrA := fun o => hcA (w.heap.size + 1) o (by simp; omega)
    have hrB := fun o => hcA w2.heap.size o (by simp)
    have hsA := fun o => hfA (w.heap.size + 1) o (by simp; omega)
    have hrC := fun o => hcA w.heap.size o (by simp; omega)
    have hsC := fun o => hfA w.heap.size o (by simp; omega)
    have hqA : w.heap.size < wr.heap.size := by omega
    have hqB : w.heap.size + 1 < wr.heap.size := by omega
    have hqC : w2.heap.size < wr.heap.size := by omega
    clear hcA hfA
    by_cases hlt : (k : Int) < n
    · go_wp2_with fail
      refine (HV.out _).mono ?_
      rintro e w4 ⟨rfl, hb4⟩
      have HI4 := Lib.hid (HI.out.old hb4)
      have hsz4 := hb4.size
      have hlim : (Lib.byteCells (repL s k)).length + s.size ≤ 140737488355328 := by
        rw [Lib.byteCells_length, repL_len]
        have := Nat.mul_le_mul (show k ≤ 50 by omega) hs
        omega
      have HL := Lib.hid hlim; clear hlim
      go_wp2_with fail
      refine (Tryz.Buffer_WriteString_k (w2.heap.size + 1) (w2.heap.size + 1) _ s _ HI4.out (by omega) (fun v hv => ?_) HL.out).mono ?_
      · obtain ⟨c, _, rfl⟩ := List.mem_map.1 hv
        rfl
      rintro e w5 ⟨rfl, hI5, hb5, _⟩
      have HI5 := Lib.hid hI5; clear hI5
      have hb6 := Below.trans (hb.tr hb4) (hb5.mono (by simp))
      go_wp2
      go_roundw
      case rel => exact ⟨k + 1, by omega, by go_num, hb6, by
        have := HI5.out
        rwa [show Lib.byteCells (repL s k) ++ Lib.byteCells s.data.toList = Lib.byteCells (repL s (k + 1)) by simp [Lib.byteCells, repL]] at this⟩
      case measure => simp [intOf]; omega
    · have hke : n.toNat = k := by omega
      go_wp2_with fail
      refine (Tryz.Buffer_String (w2.heap.size + 1) (w2.heap.size + 1) (repL s k) _ HI.out).mono ?_
      rintro e w4 ⟨rfl, q, rfl⟩
      (go_wp2_with fail; refine (newString_any _ _).mono ?_; rintro e w5 ⟨rfl, hb5⟩; obtain ⟨hc5, hf5, hz5⟩ := ext_facts hb5; (try simp at hz5); (have hq5_0 : w.heap.size < w5.heap.size := by omega); (have hl5_0 : w.heap.size ≤ w5.heap.size := by omega); (have hr5_0 := fun o => hc5 (w.heap.size) o (by first | omega | (simp; done) | (simp; omega))); (have hs5_0 := fun o => hf5 (w.heap.size) o (by first | omega | (simp; done) | (simp; omega))); (try simp (disch := first | omega | (simp; omega)) only [World.cell?_alloc_past, World.cell?_drew] at hr5_0); (try simp (disch := first | omega | (simp; omega)) only [World.frozen?_alloc_past, World.frozen?_drew] at hs5_0); clear hc5 hf5)
      go_wp2
      exact bodyPost_ret (v := fstr ⟨(repL s k).toArray⟩) (by simp [results, Tryz.results23, go_sem, *]) rfl ⟨by rw [hke]; rfl, (by repeat (first | with_reducible exact Below.refl _ _ | with_reducible assumption | ((with_reducible refine Below.setCell ?_ ?_ _); rotate_left; (simp; try omega)) | (with_reducible refine Ext.tr ?_ (by with_reducible assumption)) | (with_reducible refine Ext.al ?_ _) | (with_reducible refine below_drewN ?_ _) | (with_reducible refine Below.drew ?_)))⟩

set_option maxHeartbeats 800000 in
theorem door_REPT (inner : Iv → Array Value) (xs : List Iv) (y : Value) (z : Iv) (b o c : Nat) (w : World) (hl : xs.length ≤ 1000000000) (hx : LieI w b o xs)
    (hin : ∀ x w', x ∈ xs → Calls Tryz.prog 46 #[x.val] w' (Gives w' (.agg (inner x))))
    (hfn : ∀ w' fb p B, ArgsAt w' p B (xs.map inner) → Calls Tryz.prog 23 #[ptr fb, ptr p] w' (Gives w' y))
    (hout : ∀ w', Calls Tryz.prog 21 #[y] w' (Gives w' z.val)) :
    Calls Tryz.prog 15 #[.slice (some ⟨b, o, none⟩) xs.length c] w (Gives w z.val) := by
  have HX := Lib.hid hx; clear hx
  have HI := Lib.hid hin; clear hin
  have HF := Lib.hid hfn; clear hfn
  have HO := Lib.hid hout; clear hout
  go_enter Tryz.func15, Tryz.ntmps15
  (go_wp2_with fail; refine (doorFuncs_any _).mono ?_; rintro e w1 ⟨⟨fb, rfl⟩, hb1⟩; obtain ⟨hc1, hf1, hz1⟩ := ext_facts hb1; (try simp at hz1); (have hq1_0 : w.heap.size < w1.heap.size := by omega); (have hl1_0 : w.heap.size ≤ w1.heap.size := by omega); (have hr1_0 := fun o => hc1 (w.heap.size) o (by first | omega | (simp; done) | (simp; omega))); (have hs1_0 := fun o => hf1 (w.heap.size) o (by first | omega | (simp; done) | (simp; omega))); (try simp (disch := first | omega | (simp; omega)) only [World.cell?_alloc_past, World.cell?_drew] at hr1_0); (try simp (disch := first | omega | (simp; omega)) only [World.frozen?_alloc_past, World.frozen?_drew] at hs1_0); clear hc1 hf1)
  (go_wp2_with fail; refine ((innerList_ok inner xs b o c _ hl (HX.out.ext (by repeat (first | with_reducible exact Below.refl _ _ | with_reducible assumption | ((with_reducible refine Below.setCell ?_ ?_ _); rotate_left; (simp; try omega)) | (with_reducible refine Ext.tr ?_ (by with_reducible assumption)) | (with_reducible refine Ext.al ?_ _) | (with_reducible refine below_drewN ?_ _) | (with_reducible refine Below.drew ?_)))) HI.out)).mono ?_; rintro e w2 ⟨p, rfl, hargs, hb2⟩; obtain ⟨hc2, hf2, hz2⟩ := ext_facts hb2; (try simp at hz2); (have hq2_0 : w.heap.size < w2.heap.size := by omega); (have hl2_0 : w.heap.size ≤ w2.heap.size := by omega); (have hr2_0 := fun o => hc2 (w.heap.size) o (by first | omega | (simp; done) | (simp; omega))); (have hs2_0 := fun o => hf2 (w.heap.size) o (by first | omega | (simp; done) | (simp; omega))); (try simp (disch := first | omega | (simp; omega)) only [World.cell?_alloc_past, World.cell?_drew] at hr2_0); (try simp (disch := first | omega | (simp; omega)) only [World.frozen?_alloc_past, World.frozen?_drew] at hs2_0); clear hc2 hf2)
  have HA := Lib.hid hargs; clear hargs
  (go_wp2_with fail; refine (HF.out w2 fb p _ HA.out).mono ?_; rintro e w3 ⟨rfl, hb3⟩; obtain ⟨hc3, hf3, hz3⟩ := ext_facts hb3; (try simp at hz3); (have hq3_0 : w.heap.size < w3.heap.size := by omega); (have hl3_0 : w.heap.size ≤ w3.heap.size := by omega); (have hr3_0 := fun o => hc3 (w.heap.size) o (by first | omega | (simp; done) | (simp; omega))); (have hs3_0 := fun o => hf3 (w.heap.size) o (by first | omega | (simp; done) | (simp; omega))); (try simp (disch := first | omega | (simp; omega)) only [World.cell?_alloc_past, World.cell?_drew] at hr3_0); (try simp (disch := first | omega | (simp; omega)) only [World.frozen?_alloc_past, World.frozen?_drew] at hs3_0); clear hc3 hf3)
  (go_wp2_with fail; refine (HO.out _).mono ?_; rintro e w4 ⟨rfl, hb4⟩; obtain ⟨hc4, hf4, hz4⟩ := ext_facts hb4; (try simp at hz4); (have hq4_0 : w.heap.size < w4.heap.size := by omega); (have hl4_0 : w.heap.size ≤ w4.heap.size := by omega); (have hr4_0 := fun o => hc4 (w.heap.size) o (by first | omega | (simp; done) | (simp; omega))); (have hs4_0 := fun o => hf4 (w.heap.size) o (by first | omega | (simp; done) | (simp; omega))); (try simp (disch := first | omega | (simp; omega)) only [World.cell?_alloc_past, World.cell?_drew] at hr4_0); (try simp (disch := first | omega | (simp; omega)) only [World.frozen?_alloc_past, World.frozen?_drew] at hs4_0); clear hc4 hf4)
  go_wp2
  exact bodyPost_ret (v := Iv.val z) (by simp [results, Tryz.results15, go_sem, *]) rfl ⟨rfl, (by repeat (first | with_reducible exact Below.refl _ _ | with_reducible assumption | ((with_reducible refine Below.setCell ?_ ?_ _); rotate_left; (simp; try omega)) | (with_reducible refine Ext.tr ?_ (by with_reducible assumption)) | (with_reducible refine Ext.al ?_ _) | (with_reducible refine below_drewN ?_ _) | (with_reducible refine Below.drew ?_)))⟩

set_option maxHeartbeats 800000 in
theorem impl_REPT (xs : List Iv) (z : Iv) (b c : Nat) (w : World) (hl : xs.length ≤ 1000000000) (hne : xs ≠ []) (hx : LieI w b 0 xs)
    (hdoor : ∀ w' b' c', LieI w' b' 0 xs → Calls Tryz.prog 15 #[.slice (some ⟨b', 0, none⟩) xs.length c'] w' (Gives w' z.val)) :
    Calls Tryz.prog 6 #[.slice (some ⟨b, 0, none⟩) xs.length c] w (Gives w z.val) := by
  have HX := Lib.hid hx; clear hx
  have HD := Lib.hid hdoor; clear hdoor
  go_enter Tryz.func6, Tryz.ntmps6
  (go_wp2_with fail; refine (in_at xs b 0 c _ hl (HX.out.ext (by repeat (first | with_reducible exact Below.refl _ _ | with_reducible assumption | ((with_reducible refine Below.setCell ?_ ?_ _); rotate_left; (simp; try omega)) | (with_reducible refine Ext.tr ?_ (by with_reducible assumption)) | (with_reducible refine Ext.al ?_ _) | (with_reducible refine below_drewN ?_ _) | (with_reducible refine Below.drew ?_)))) hne).mono ?_; rintro e w1 ⟨b1, c1, rfl, hlie, hb1⟩; obtain ⟨hc1, hf1, hz1⟩ := ext_facts hb1; (try simp at hz1); (have hq1_0 : w.heap.size < w1.heap.size := by omega); (have hl1_0 : w.heap.size ≤ w1.heap.size := by omega); (have hr1_0 := fun o => hc1 (w.heap.size) o (by first | omega | (simp; done) | (simp; omega))); (have hs1_0 := fun o => hf1 (w.heap.size) o (by first | omega | (simp; done) | (simp; omega))); (try simp (disch := first | omega | (simp; omega)) only [World.cell?_alloc_past, World.cell?_drew] at hr1_0); (try simp (disch := first | omega | (simp; omega)) only [World.frozen?_alloc_past, World.frozen?_drew] at hs1_0); clear hc1 hf1)
  have HL := Lib.hid hlie; clear hlie
  (go_wp2_with fail; refine (HD.out _ b1 c1 HL.out).mono ?_; rintro e w2 ⟨rfl, hb2⟩; obtain ⟨hc2, hf2, hz2⟩ := ext_facts hb2; (try simp at hz2); (have hq2_0 : w.heap.size < w2.heap.size := by omega); (have hl2_0 : w.heap.size ≤ w2.heap.size := by omega); (have hr2_0 := fun o => hc2 (w.heap.size) o (by first | omega | (simp; done) | (simp; omega))); (have hs2_0 := fun o => hf2 (w.heap.size) o (by first | omega | (simp; done) | (simp; omega))); (try simp (disch := first | omega | (simp; omega)) only [World.cell?_alloc_past, World.cell?_drew] at hr2_0); (try simp (disch := first | omega | (simp; omega)) only [World.frozen?_alloc_past, World.frozen?_drew] at hs2_0); clear hc2 hf2)
  (go_wp2_with fail; refine (out_ok z _).mono ?_; rintro e w3 ⟨rfl, hb3⟩; obtain ⟨hc3, hf3, hz3⟩ := ext_facts hb3; (try simp at hz3); (have hq3_0 : w.heap.size < w3.heap.size := by omega); (have hl3_0 : w.heap.size ≤ w3.heap.size := by omega); (have hr3_0 := fun o => hc3 (w.heap.size) o (by first | omega | (simp; done) | (simp; omega))); (have hs3_0 := fun o => hf3 (w.heap.size) o (by first | omega | (simp; done) | (simp; omega))); (try simp (disch := first | omega | (simp; omega)) only [World.cell?_alloc_past, World.cell?_drew] at hr3_0); (try simp (disch := first | omega | (simp; omega)) only [World.frozen?_alloc_past, World.frozen?_drew] at hs3_0); clear hc3 hf3)
  go_wp2
  exact bodyPost_ret (v := Iv.val z) (by simp [results, Tryz.results6, go_sem, *]) rfl ⟨rfl, (by repeat (first | with_reducible exact Below.refl _ _ | with_reducible assumption | ((with_reducible refine Below.setCell ?_ ?_ _); rotate_left; (simp; try omega)) | (with_reducible refine Ext.tr ?_ (by with_reducible assumption)) | (with_reducible refine Ext.al ?_ _) | (with_reducible refine below_drewN ?_ _) | (with_reducible refine Below.drew ?_)))⟩
end Go.Proofs.YtfgfelgdmfpieaaGreatDoor
