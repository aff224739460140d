/-
  SUM of the package.
-/
import Derived.Test.YtgdilpecibjidaaGreatDoorSv
import Derived.Test.YtgdilpecibjidaaGreatDoorNx2
import Derived.Deep.LoopGhost
namespace Go.Proofs.YtgdilpecibjidaaGreatDoor
set_option linter.unusedSimpArgs false
set_option linter.unusedVariables false
open Go Go.RowKit
set_option maxRecDepth 100000

@[go_sem] theorem run_store_func (P : Program) (w : World) (a : Addr) (m : Mode) (fn : Fn) (first cap : Array Value) : (store a (.func fn first cap) m).run P w = stored P w a (.func fn first cap) m := run_store P w a _ m rfl

/-- A single value that SUM takes: a number of z sixteenths, a truth, or an error. -/
def SingOk (x : Iv) (z : Int) : Prop :=
  (x = ⟨1, f16 z, ⟨#[]⟩⟩ ∧ -1599999999984 ≤ z ∧ z ≤ 1599999999984) ∨ (x = ⟨3, 0, ⟨#[]⟩⟩ ∧ z = 0) ∨ (x = ⟨3, 4607182418800017408, ⟨#[]⟩⟩ ∧ z = 16) ∨ (∃ t, x = ⟨4, 0, t⟩ ∧ z = 0)

/-- What SUM says: the first error, or the sum. -/
def sumRes (xs : List Iv) (T : Int) : Iv := match xs.find? (fun x => x.k == 4) with
  | some e => e
  | none => ⟨1, f16 T, ⟨#[]⟩⟩

theorem FArgs.es {w : World} {b B : Nat} {es : List (Nat × Value)} {ps : List (Array Value × Vt Iv)} (h : FArgs w b B es ps) : ArgsEs w b es (ps.map Prod.fst) := ⟨h.1, by rw [h.2.1, List.map_map]; rfl⟩

/-- The variable of the result, not written yet. -/
def ResAt (w : World) (R : Nat) : Prop := w.heap[R]? = some (.cells #[.string ⟨#[]⟩, .float .f64 0, .string ⟨#[]⟩, .slice none 0 0, .slice none 0 0, .bool false, .string ⟨#[]⟩, .int .u8 0, .pointer none, .pointer none] 63 (0, 0))

theorem ResAt.facts {w : World} {R : Nat} (h : ResAt w R) : (∀ i, w.cell? ⟨R, i, none⟩ = (#[.string ⟨#[]⟩, .float .f64 0, .string ⟨#[]⟩, .slice none 0 0, .slice none 0 0, .bool false, .string ⟨#[]⟩, .int .u8 0, .pointer none, .pointer none] : Array Value)[i]?) ∧ ∀ i, w.frozen? ⟨R, i, none⟩ = false := by
  unfold ResAt at h
  exact ⟨fun i => by simp [World.cell?, h], fun i => by simp [World.frozen?, h]⟩

structure SuSt (es : List (Nat × Value)) (cs : List Int) (xs : List Iv) (w wr : World) (k : Nat) : Prop where
  ext : Ext w wr
  size : w.heap.size + 3 ≤ wr.heap.size
  res : ResAt wr w.heap.size
  sum : SumAt wr (w.heap.size + 1) (f16 (sumI id (cs.take k)))
  clo : wr.cell? ⟨w.heap.size + 1 + 1, 0, none⟩ = some (cloV (w.heap.size + 1) (w.heap.size + 1 + 1))
  fine : ∀ x ∈ xs.take (k - 1), x.k ≠ 4

def SuRel (es : List (Nat × Value)) (cs : List Int) (xs : List Iv) (w wr : World) (tok : Value) (n : Nat) : Prop := ∃ k : Nat, k ≤ cs.length ∧ n + k = cs.length ∧ tok = elp es k ∧ SuSt es cs xs w wr k

theorem SuSt.later {es : List (Nat × Value)} {cs : List Int} {xs : List Iv} {w wr w' : World} {k k' : Nat} (h : SuSt es cs xs w wr k) (hk : Keeps [w.heap.size + 1] wr w') (hs : SumAt w' (w.heap.size + 1) (f16 (sumI id (cs.take k'))))
    (hf : ∀ x ∈ xs.take (k' - 1), x.k ≠ 4) : SuSt es cs xs w w' k' := by
  have hsz := h.size
  refine ⟨hk.ext h.ext (fun q hq => ?_), Nat.le_trans h.size hk.size, ?_, hs, ?_, hf⟩
  · have e : q = w.heap.size + 1 := by simpa using hq
    omega
  · have hr := h.res
    unfold ResAt at hr ⊢
    rw [hk.block w.heap.size (by omega) (by simp)]; exact hr
  · rw [World.cell?_of_block (a := ⟨w.heap.size + 1 + 1, 0, none⟩) (hk.block (w.heap.size + 1 + 1) (by omega) (by simp))]; exact h.clo

set_option maxHeartbeats 6400000 in
theorem fn_sum (fb b B : Nat) (es : List (Nat × Value)) (ps : List (Array Value × Vt Iv)) (rows : List (List Iv)) (xs : List Iv) (zf : Iv → Int) (zx : Iv → Int) (w : World)
    (h : FArgs w b B es ps) (hv : vts ps = .mat rows :: xs.map .sc) (hl : xs.length ≤ 100) (hz : ∀ x ∈ rows.flatten, IvOk x ∧ Cz x (zf x)) (hx : ∀ x ∈ xs, SingOk x (zx x)) (hfl : rows.flatten.length ≤ 1000) :
    Calls Tryz.prog 24 #[ptr fb, ptr b] w (Gives w (.agg (innerC (sumRes xs (sumI zf rows.flatten + sumI zx xs))))) := by
  have hmf : ∀ (fn : Fn) (first cap : Array Value) (w : World), (Instr.makeFunc fn first cap).run Tryz.prog w = .ok (.func fn first cap) w := fun _ _ _ _ => rfl
  obtain ⟨cs, hcs⟩ : ∃ cs, sumI zf rows.flatten :: xs.map zx = cs := ⟨_, rfl⟩
  have hcl : cs.length = xs.length + 1 := by rw [← hcs]; simp
  have hpl : ps.length = cs.length := by
    have := congrArg List.length hv
    simp only [vts, List.length_map, List.length_cons] at this
    omega
  have hesl := h.len
  have HA := Lib.hid h
  have HV := Lib.hid hv; have HZ := Lib.hid hz; have HX := Lib.hid hx; have HCS := Lib.hid hcs
  have hbz : -(1599999999984 * (rows.flatten.length : Int)) ≤ sumI zf rows.flatten ∧ sumI zf rows.flatten ≤ 1599999999984 * (rows.flatten.length : Int) := sumI_bound zf 1599999999984 _ (by omega) fun x hx => by
    have h := (hz x hx).2
    unfold Cz at h
    split at h
    · exact h.2
    · omega
  have hbs : ∀ k, -1799999999999984 ≤ sumI id (cs.take k) ∧ sumI id (cs.take k) ≤ 1799999999999984 := by
    intro k
    cases k with
    | zero => simp [sumI]
    | succ k =>
      rw [← hcs, List.take_succ_cons, show ∀ (a : Int) l, a :: l = [a] ++ l from fun _ _ => rfl, sumI_append, sumI_one]
      have h2 := sumI_bound id 1599999999984 ((xs.map zx).take k) (by omega) (fun y hy => by
        obtain ⟨x, hxm, rfl⟩ := List.mem_map.1 (List.mem_of_mem_take hy)
        rcases hx x hxm with ⟨_, h1, h2⟩ | ⟨_, e⟩ | ⟨_, e⟩ | ⟨_, _, e⟩
        · exact ⟨h1, h2⟩
        · rw [id, e]; omega
        · rw [id, e]; omega
        · rw [id, e]; omega)
      have h3 : ((xs.map zx).take k).length ≤ 100 := by rw [List.length_take, List.length_map]; omega
      simp only [id] at h2 ⊢
      omega
  have HBS := Lib.hid hbs
  clear h hv hz hx hcs hbz hbs
  go_enter Tryz.func24, Tryz.ntmps24
  go_wp2_with fail
  refine (front_es _ b es _ (HA.out.es.ext (by repeat (first | with_reducible exact Below.refl _ _ | with_reducible assumption | ((with_reducible refine Below.setCell ?_ ?_ _); rotate_left; (simp; try omega)) | (with_reducible refine Ext.tr ?_ (by with_reducible assumption)) | (with_reducible refine Ext.al ?_ _) | (with_reducible refine below_drewN ?_ _) | (with_reducible refine Below.drew ?_))))).mono ?_
  rintro e w1 ⟨rfl, rfl⟩
  go_wp2
  go_loopg [7] cs.length (fun gk tok wr => SuRel es cs xs w wr tok gk)
  case atStart =>
    refine ⟨0, Nat.zero_le _, rfl, rfl, ⟨(by repeat (first | with_reducible exact Below.refl _ _ | with_reducible assumption | ((with_reducible refine Below.setCell ?_ ?_ _); rotate_left; (simp; try omega)) | (with_reducible refine Ext.tr ?_ (by with_reducible assumption)) | (with_reducible refine Ext.al ?_ _) | (with_reducible refine below_drewN ?_ _) | (with_reducible refine Below.drew ?_))), by simp, ?_, ?_, ?_, by simp⟩⟩
    · unfold ResAt
      rw [heap_alloc_old _ _ _ (by simp; omega), heap_alloc_old _ _ _ (by simp), heap_alloc_new _ _ _ rfl]
    · unfold SumAt
      rw [heap_alloc_old _ _ _ (by simp), heap_alloc_new _ _ _ (by simp), show f16 (sumI id (cs.take 0)) = 0 from f16_zero]
    · simp [go_sem]
  case round =>
    obtain ⟨k, hk, hgk, htok, hst⟩ := hrel
    have HST := Lib.hid hst
    have hb := hst.ext
    obtain ⟨hrc, hrf⟩ := hst.res.facts
    have hsc := hst.sum.cell; have hsf := hst.sum.free
    have hfc := hst.clo
    have hsz := hst.size
    have hF1 : w.heap.size + 1 + 1 < wr.heap.size := by omega
    have hS1 : w.heap.size + 1 < wr.heap.size := by omega
    have hR1 : w.heap.size < wr.heap.size := by omega
    have HAR := Lib.hid (HA.out.ext hb)
    have hbk := HBS.out k
    clear hst
    by_cases hlt : k < cs.length
    · obtain ⟨p, Hp⟩ := elem_at (show k < ps.length by omega)
      obtain ⟨n, hes, hel⟩ := HAR.out.es.elem (show (ps.map Prod.fst)[k]? = some p.1 by rw [List.getElem?_map, Hp.out]; rfl)
      have htok2 : elp es k = ptr n := by unfold elp; rw [hes]
      rw [htok2] at htok
      subst htok
      clear htok2
      unfold ElemAt at hel
      have hnl := lt_of_cell hel
      have hvk : (vts ps)[k]? = some p.2 := by unfold vts; rw [List.getElem?_map, Hp.out]; rfl
      rw [HV.out] at hvk
      have HES := Lib.hid hes
      obtain ⟨L, H, hH, _, hfa⟩ := HAR.out.2.2.2.2 k p Hp.out
      cases k with
      | zero =>
        have e2 : Vt.mat rows = p.2 := by simpa using hvk
        obtain ⟨p1, p2⟩ := p
        subst e2
        obtain ⟨hne, _, b', c', q1, q2, hp1, _, _, _, _, _, _, hml, hl1, hl2⟩ := hfa
        have e1 : p1 = matC b' rows.length c' q1 q2 := hp1
        subst e1
        have hc1 : cs.take 1 = [sumI zf rows.flatten] := by rw [← HCS.out]; rfl
        have HC := Lib.hid (fun (w' : World) (hw : Ext wr w') => clo_mat zf rows (sumI id (cs.take 0)) L H b' c' q1 q2 (w.heap.size + 1) (w.heap.size + 1 + 1) w' (HST.out.sum.ext hw) (hw.get HST.out.clo) (by omega) (by simp [sumI]) (by simp [sumI]) hne hfl (hml.ext hw) (hw.get hl1) (hw.get hl2) HZ.out)
        rw [show sumI id (cs.take 0) + sumI zf rows.flatten = sumI id (cs.take (0 + 1)) by rw [hc1, sumI_one]; simp [sumI]] at HC
        clear hml hl1 hl2 hvk hbk
        go_wp2_with fail
        refine (HC.out _ ((Ext.rf _).al _)).mono ?_
        rintro e w2 ⟨rfl, hs2, hk2⟩
        have hk3 := (Keeps.of_ext ((Ext.rf wr).al _)).tr hk2
        have HST2 := Lib.hid (HST.out.later hk3 hs2 (by simp))
        clear hs2 hk2 hk3
        go_wp2_with fail
        refine (next_es w2 b es _ (HA.out.ext HST2.out.ext).es 0 n _ HES.out).mono ?_
        rintro e w3 ⟨rfl, rfl⟩
        go_wp2
        go_roundg (cs.length - (0 + 1))
        case measure => omega
        case rel => exact ⟨0 + 1, by omega, by omega, rfl, HST2.out⟩
      | succ k =>
        have hxk : k < xs.length := by omega
        obtain ⟨x, Hx⟩ := elem_at hxk
        have e2 : Vt.sc x = p.2 := by
          have : (xs.map Vt.sc)[k]? = some p.2 := by simpa using hvk
          rw [List.getElem?_map, Hx.out] at this
          simpa using this
        obtain ⟨p1, p2⟩ := p
        subst e2
        have e1 : p1 = innerC x := hfa
        subst e1
        have hc1 := sumI_take id (show Hid (cs[k + 1]? = some (zx x)) from Lib.hid (by rw [← HCS.out, List.getElem?_cons_succ, List.getElem?_map, Hx.out]; rfl))
        have hfin : x.k ≠ 4 → ∀ y ∈ xs.take (k + 1), y.k ≠ 4 := fun hx4 y hy => by
          rw [take_succ_at Hx] at hy
          rcases List.mem_append.1 hy with hy | hy
          · exact HST.out.fine y hy
          · have e : y = x := by simpa using hy
            rw [e]; exact hx4
        have HFI := Lib.hid hfin
        have hlc := HX.out x (mem_at Hx)
        clear hvk hfin hsc hsf
        generalize zx x = z at hlc hc1
        rcases hlc with ⟨rfl, hz1, hz2⟩ | ⟨rfl, rfl⟩ | ⟨rfl, rfl⟩ | ⟨t, rfl, hz0⟩
        · have he : wr.cell? ⟨n, 3, none⟩ = some (.iface 63 (.agg (fnumC (f16 z)))) := hel
          clear hel
          have HC := Lib.hid (fun (w' : World) (hw : Ext wr w') => clo_num (f16 z) (w.heap.size + 1) (w.heap.size + 1 + 1) _ _ false w' (HST.out.sum.ext hw) (add_f16 (a := sumI id (cs.take (k + 1))) (b := z) (by omega) (by omega) (by omega) (by omega)))
          rw [show sumI id (cs.take (k + 1)) + z = sumI id (cs.take (k + 1 + 1)) by rw [hc1]; rfl] at HC
          go_wp2_with fail
          refine (HC.out _ ((Ext.rf _).al _)).mono ?_
          rintro e w2 ⟨rfl, hs2, hk2⟩
          have hk3 := (Keeps.of_ext ((Ext.rf wr).al _)).tr hk2
          have HST2 := Lib.hid (HST.out.later (k' := k + 1 + 1) hk3 hs2 (HFI.out (by decide)))
          clear hs2 hk2 hk3
          go_wp2_with fail
          refine (next_es w2 b es _ (HA.out.ext HST2.out.ext).es (k + 1) n _ HES.out).mono ?_
          rintro e w3 ⟨rfl, rfl⟩
          go_wp2
          go_roundg (cs.length - (k + 1 + 1))
          case measure => omega
          case rel => exact ⟨k + 1 + 1, by omega, by omega, rfl, HST2.out⟩
        · have he : wr.cell? ⟨n, 3, none⟩ = some (.iface 63 (.agg (fboolC 0))) := hel
          clear hel
          have HC := Lib.hid (fun (w' : World) (hw : Ext wr w') => clo_log 0 (w.heap.size + 1) (w.heap.size + 1 + 1) _ _ w' (HST.out.sum.ext hw) (by have := add_f16 (a := sumI id (cs.take (k + 1))) (b := 0) (by omega) (by omega) (by omega) (by omega); rwa [f16_zero] at this))
          rw [show sumI id (cs.take (k + 1)) + (0 : Int) = sumI id (cs.take (k + 1 + 1)) by rw [hc1]; rfl] at HC
          go_wp2_with fail
          refine (HC.out _ ((Ext.rf _).al _)).mono ?_
          rintro e w2 ⟨rfl, hs2, hk2⟩
          have hk3 := (Keeps.of_ext ((Ext.rf wr).al _)).tr hk2
          have HST2 := Lib.hid (HST.out.later (k' := k + 1 + 1) hk3 hs2 (HFI.out (by decide)))
          clear hs2 hk2 hk3
          go_wp2_with fail
          refine (next_es w2 b es _ (HA.out.ext HST2.out.ext).es (k + 1) n _ HES.out).mono ?_
          rintro e w3 ⟨rfl, rfl⟩
          go_wp2
          go_roundg (cs.length - (k + 1 + 1))
          case measure => omega
          case rel => exact ⟨k + 1 + 1, by omega, by omega, rfl, HST2.out⟩
        · have he : wr.cell? ⟨n, 3, none⟩ = some (.iface 63 (.agg (fboolC 4607182418800017408))) := hel
          clear hel
          have HC := Lib.hid (fun (w' : World) (hw : Ext wr w') => clo_log 4607182418800017408 (w.heap.size + 1) (w.heap.size + 1 + 1) _ _ w' (HST.out.sum.ext hw) (by have := add_f16 (a := sumI id (cs.take (k + 1))) (b := 16) (by omega) (by omega) (by omega) (by omega); rwa [← one_f16] at this))
          rw [show sumI id (cs.take (k + 1)) + (16 : Int) = sumI id (cs.take (k + 1 + 1)) by rw [hc1]; rfl] at HC
          go_wp2_with fail
          refine (HC.out _ ((Ext.rf _).al _)).mono ?_
          rintro e w2 ⟨rfl, hs2, hk2⟩
          have hk3 := (Keeps.of_ext ((Ext.rf wr).al _)).tr hk2
          have HST2 := Lib.hid (HST.out.later (k' := k + 1 + 1) hk3 hs2 (HFI.out (by decide)))
          clear hs2 hk2 hk3
          go_wp2_with fail
          refine (next_es w2 b es _ (HA.out.ext HST2.out.ext).es (k + 1) n _ HES.out).mono ?_
          rintro e w3 ⟨rfl, rfl⟩
          go_wp2
          go_roundg (cs.length - (k + 1 + 1))
          case measure => omega
          case rel => exact ⟨k + 1 + 1, by omega, by omega, rfl, HST2.out⟩
        · have he : wr.cell? ⟨n, 3, none⟩ = some (.iface 63 (.agg (ferrC t t))) := hel
          clear hel
          have hfind : xs.find? (fun x => x.k == 4) = some ⟨4, 0, t⟩ := by
            have hsplit : xs = xs.take k ++ ⟨4, 0, t⟩ :: xs.drop (k + 1) := by
              have h1 : xs[k] = ⟨4, 0, t⟩ := by
                have := Hx.out
                rw [List.getElem?_eq_getElem hxk] at this
                exact Option.some.inj this
              rw [← h1, ← List.drop_eq_getElem_cons hxk, List.take_append_drop]
            rw [hsplit, List.find?_append, List.find?_eq_none.2 (fun y hy => by
              have := HST.out.fine y hy
              simpa using this)]
            rfl
          have hres : innerC (sumRes xs (sumI zf rows.flatten + sumI zx xs)) = ferrC t t := by unfold sumRes; rw [hfind]; rfl
          have HRES := Lib.hid hres
          clear hfind hres
          go_wp2
          refine bodyPost_ret (v := .agg (innerC (sumRes xs (sumI zf rows.flatten + sumI zx xs)))) (by rw [HRES.out]; simp [results, Tryz.results24, go_sem, *]) rfl ⟨rfl, (by repeat (first | with_reducible exact Below.refl _ _ | with_reducible assumption | ((with_reducible refine Below.setCell ?_ ?_ _); rotate_left; (simp; try omega)) | (with_reducible refine Ext.tr ?_ (by with_reducible assumption)) | (with_reducible refine Ext.al ?_ _) | (with_reducible refine below_drewN ?_ _) | (with_reducible refine Below.drew ?_)))⟩
    · have hkl : k = cs.length := by omega
      have htok2 : elp es k = .pointer none := by unfold elp; rw [List.getElem?_eq_none (by omega)]
      rw [htok2] at htok
      subst htok
      have hT : sumI id (cs.take k) = sumI zf rows.flatten + sumI zx xs := by
        rw [hkl, List.take_length, ← HCS.out, show ∀ (a : Int) l, a :: l = [a] ++ l from fun _ _ => rfl, sumI_append, sumI_one]
        unfold sumI
        rw [List.map_id]
        rfl
      have hfind : xs.find? (fun x => x.k == 4) = none := List.find?_eq_none.2 fun y hy => by
        have h := HST.out.fine y (by rw [List.take_of_length_le (by omega)]; exact hy)
        simpa using h
      have hres : innerC (sumRes xs (sumI zf rows.flatten + sumI zx xs)) = fnumC (f16 (sumI zf rows.flatten + sumI zx xs)) := by unfold sumRes; rw [hfind]; rfl
      have hb2 := HBS.out k
      rw [hT] at hsc hb2
      have HN := Lib.hid (fun w' => newNumber_ok (f16 (sumI zf rows.flatten + sumI zx xs)) w' (tame_f16 (by omega) (by omega)))
      have HRES := Lib.hid hres
      have HF1 := Lib.hid hF1
      clear hfind hres hT htok2 hkl hbk hb2 hsf hfc hF1
      go_wp2_with fail
      refine (HN.out _).mono ?_
      rintro e w2 ⟨rfl, hb2⟩
      (obtain ⟨hc2, hf2, hz2⟩ := ext_facts hb2; (try simp at hz2); (have hq2_0 : w.heap.size < w2.heap.size := by omega); (have hl2_0 : w.heap.size ≤ w2.heap.size := by omega); (have hr2_0 := fun o => hc2 (w.heap.size) o (by first | omega | (simp; done) | (simp; omega))); (have hs2_0 := fun o => hf2 (w.heap.size) o (by first | omega | (simp; done) | (simp; omega))); (try simp (disch := first | omega | (simp; omega)) only [World.cell?_alloc_past, World.cell?_drew] at hr2_0); (try simp (disch := first | omega | (simp; omega)) only [World.frozen?_alloc_past, World.frozen?_drew] at hs2_0); clear hc2 hf2)
      have hbw : Ext w w2 := hb.tr hb2
      go_wp2
      refine bodyPost_ret (v := .agg (innerC (sumRes xs (sumI zf rows.flatten + sumI zx xs)))) (by rw [HRES.out]; simp [results, Tryz.results24, go_sem, *]) rfl ⟨rfl, (by repeat (first | with_reducible exact Below.refl _ _ | with_reducible assumption | ((with_reducible refine Below.setCell ?_ ?_ _); rotate_left; (simp; try omega)) | (with_reducible refine Ext.tr ?_ (by with_reducible assumption)) | (with_reducible refine Ext.al ?_ _) | (with_reducible refine below_drewN ?_ _) | (with_reducible refine Below.drew ?_)))⟩
end Go.Proofs.YtgdilpecibjidaaGreatDoor
