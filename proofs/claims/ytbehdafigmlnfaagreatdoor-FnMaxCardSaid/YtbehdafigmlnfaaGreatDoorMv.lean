/-
  maxValue and MAX of the package.
-/
import Derived.Test.YtbehdafigmlnfaaGreatDoorMa
import Derived.Deep.LoopGhost
namespace Go.Proofs.YtbehdafigmlnfaaGreatDoor
set_option linter.unusedSimpArgs false
set_option linter.unusedVariables false
open Go Go.RowKit
set_option maxRecDepth 100000

/-- The variable of the result, not written yet. -/
def ResAt (w : World) (R : Nat) : Prop := w.heap[R]? = some (.cells #[.string ⟨#[]⟩, .float .f64 0, .string ⟨#[]⟩, .slice none 0 0, .slice none 0 0, .bool false, .string ⟨#[]⟩, .int .u8 0, .pointer none, .pointer none] 63 (0, 0))

theorem ResAt.facts {w : World} {R : Nat} (h : ResAt w R) : (∀ i, w.cell? ⟨R, i, none⟩ = (#[.string ⟨#[]⟩, .float .f64 0, .string ⟨#[]⟩, .slice none 0 0, .slice none 0 0, .bool false, .string ⟨#[]⟩, .int .u8 0, .pointer none, .pointer none] : Array Value)[i]?) ∧ ∀ i, w.frozen? ⟨R, i, none⟩ = false := by
  unfold ResAt at h
  exact ⟨fun i => by simp [World.cell?, h], fun i => by simp [World.frozen?, h]⟩

/-- The greatest one behind so many arguments. -/
def gst (zf : Iv → Option Int) (zx : Iv → Int) (cells xs : List Iv) : Nat → Option Int
  | 0 => none
  | k + 1 => maxI (fun x => some (zx x)) (xs.take k) (maxI zf cells none)

/-- What MAX says of numbers. -/
def maxT (zf : Iv → Option Int) (zx : Iv → Int) (cells xs : List Iv) : Int := (maxI (fun x => some (zx x)) xs (maxI zf cells none)).getD 0

theorem bnd_none : bnd none := fun z hz => by cases hz

theorem bnd_some {z : Int} (h1 : -1599999999984 ≤ z) (h2 : z ≤ 1599999999984) : bnd (some z) := fun y hy => by have := Option.some.inj hy; omega

theorem sing_bnd {x : Iv} {z : Int} (h : SingOk x z) : bnd (some z) := by
  rcases h with ⟨_, h1, h2⟩ | ⟨_, e⟩ | ⟨_, e⟩ | ⟨_, _, e⟩
  · exact bnd_some h1 h2
  · rw [e]; exact bnd_some (by decide) (by decide)
  · rw [e]; exact bnd_some (by decide) (by decide)
  · rw [e]; exact bnd_some (by decide) (by decide)

theorem gst_bnd {zf : Iv → Option Int} {zx : Iv → Int} {cells xs : List Iv} (hc : ∀ x ∈ cells, bnd (zf x)) (hx : ∀ x ∈ xs, bnd (some (zx x))) (k : Nat) : bnd (gst zf zx cells xs k) := by
  cases k with
  | zero => exact bnd_none
  | succ k => exact maxI_bnd _ _ _ (maxI_bnd _ _ _ bnd_none hc) fun x hm => hx x (List.mem_of_mem_take hm)

structure MaSt (xs : List Iv) (w wr : World) (k : Nat) : Prop where
  ext : Ext w wr
  size : w.heap.size + 1 ≤ wr.heap.size
  res : ResAt wr w.heap.size
  fine : ∀ x ∈ xs.take (k - 1), x.k ≠ 4

def MaRel (es : List (Nat × Value)) (G : Nat → Option Int) (xs : List Iv) (w wr : World) (v tok : Value) (n : Nat) : Prop :=
  ∃ k : Nat, k ≤ xs.length + 1 ∧ n + k = xs.length + 1 ∧ tok = elp es k ∧ v = .float .f64 (mw (G k)) ∧ MaSt xs w wr k

theorem MaSt.later {xs : List Iv} {w wr w' : World} {k k' : Nat} (h : MaSt xs w wr k) (hk : Ext wr w') (hf : ∀ x ∈ xs.take (k' - 1), x.k ≠ 4) : MaSt xs w w' k' := by
  have hsz := h.size
  refine ⟨h.ext.tr hk, Nat.le_trans h.size hk.size, ?_, hf⟩
  have hr := h.res
  unfold ResAt at hr ⊢
  rw [hk.block w.heap.size (by omega)]; exact hr

set_option maxHeartbeats 6400000 in
theorem fn_maxValue (fb b B : Nat) (es : List (Nat × Value)) (ps : List (Array Value × Vt Iv)) (rows : List (List Iv)) (xs : List Iv) (zf : Iv → Option Int) (zx : Iv → Int) (w : World)
    (h : FArgs w b B es ps) (hv : vts ps = .mat rows :: xs.map .sc) (hl : xs.length ≤ 100) (hz : ∀ x ∈ rows.flatten, IvOk x ∧ Mz x (zf x)) (hx : ∀ x ∈ xs, SingOk x (zx x)) (hfl : rows.flatten.length ≤ 1000) :
    Calls Tryz.prog 44 #[ptr fb, .bool false, ptr b] w (Gives w (.agg (innerC (sumRes xs (maxT zf zx rows.flatten xs))))) := by
  have hpl : ps.length = xs.length + 1 := by
    have := congrArg List.length hv
    simp only [vts, List.length_map, List.length_cons] at this
    omega
  have hesl := h.len
  have HA := Lib.hid h
  have HV := Lib.hid hv; have HZ := Lib.hid hz; have HX := Lib.hid hx
  have HBG := Lib.hid (gst_bnd (zf := zf) (zx := zx) (cells := rows.flatten) (xs := xs) (fun x hm => (hz x hm).2.bnd) (fun x hm => sing_bnd (hx x hm)))
  clear h hv hz hx
  go_enter Tryz.func44, Tryz.ntmps44
  go_wp2_with fail
  refine (front_es _ b es _ (HA.out.es.ext (by repeat (first | with_reducible exact Below.refl _ _ | with_reducible assumption | ((with_reducible refine Below.setCell ?_ ?_ _); rotate_left; (simp; try omega)) | (with_reducible refine Ext.tr ?_ (by with_reducible assumption)) | (with_reducible refine Ext.al ?_ _) | (with_reducible refine below_drewN ?_ _) | (with_reducible refine Below.drew ?_))))).mono ?_
  rintro e w1 ⟨rfl, rfl⟩
  go_wp2
  go_loopg [7, 8] (xs.length + 1) (fun gk v tok wr => MaRel es (gst zf zx rows.flatten xs) xs w wr v tok gk)
  case atStart =>
    refine ⟨0, Nat.zero_le _, rfl, rfl, rfl, ⟨(by repeat (first | with_reducible exact Below.refl _ _ | with_reducible assumption | ((with_reducible refine Below.setCell ?_ ?_ _); rotate_left; (simp; try omega)) | (with_reducible refine Ext.tr ?_ (by with_reducible assumption)) | (with_reducible refine Ext.al ?_ _) | (with_reducible refine below_drewN ?_ _) | (with_reducible refine Below.drew ?_))), by simp, ?_, by simp⟩⟩
    exact heap_alloc_new _ _ _ rfl
  case round =>
    obtain ⟨k, hk, hgk, htok, rfl, hst⟩ := hrel
    have HST := Lib.hid hst
    have hb := hst.ext
    obtain ⟨hrc, hrf⟩ := hst.res.facts
    have hsz := hst.size
    have hR1 : w.heap.size < wr.heap.size := by omega
    have HAR := Lib.hid (HA.out.ext hb)
    clear hst
    by_cases hlt : k < xs.length + 1
    · obtain ⟨p, Hp⟩ := elem_at (show k < ps.length by omega)
      obtain ⟨n, hes, hel⟩ := HAR.out.es.elem (show (ps.map Prod.fst)[k]? = some p.1 by rw [List.getElem?_map, Hp.out]; rfl)
      have htok2 : elp es k = ptr n := by unfold elp; rw [hes]
      rw [htok2] at htok
      subst htok
      clear htok2
      unfold ElemAt at hel
      have hnl := lt_of_cell hel
      have hvk : (vts ps)[k]? = some p.2 := by unfold vts; rw [List.getElem?_map, Hp.out]; rfl
      rw [HV.out] at hvk
      have HES := Lib.hid hes
      obtain ⟨L, H, hH, _, hfa⟩ := HAR.out.2.2.2.2 k p Hp.out
      cases k with
      | zero =>
        have e2 : Vt.mat rows = p.2 := by simpa using hvk
        obtain ⟨p1, p2⟩ := p
        subst e2
        obtain ⟨hne, _, b', c', q1, q2, hp1, _, _, _, _, _, _, hml, hl1, hl2⟩ := hfa
        have e1 : p1 = matC b' rows.length c' q1 q2 := hp1
        subst e1
        have HC := Lib.hid (fun (w' : World) (hw : Ext wr w') => calcMax_ok zf rows none L H b' c' q1 q2 w' bnd_none hne hfl (hml.ext hw) HZ.out)
        clear hml hl1 hl2 hvk
        go_wp2_with fail
        refine (HC.out _ ((Ext.rf _).al _)).mono ?_
        rintro e w2 ⟨rfl, hb2⟩
        have hb3 : Ext wr w2 := ((Ext.rf wr).al _).tr hb2
        have HST2 := Lib.hid (HST.out.later (k' := 0 + 1) hb3 (by simp))
        clear hb2 hb3
        go_wp2_with fail
        refine (next_es w2 b es _ (HA.out.ext HST2.out.ext).es 0 n _ HES.out).mono ?_
        rintro e w3 ⟨rfl, rfl⟩
        go_wp2
        go_roundg (xs.length + 1 - (0 + 1))
        case measure => omega
        case rel => exact ⟨0 + 1, by omega, by omega, rfl, rfl, HST2.out⟩
      | succ k =>
        have hxk : k < xs.length := by omega
        obtain ⟨x, Hx⟩ := elem_at hxk
        have e2 : Vt.sc x = p.2 := by
          have : (xs.map Vt.sc)[k]? = some p.2 := by simpa using hvk
          rw [List.getElem?_map, Hx.out] at this
          simpa using this
        obtain ⟨p1, p2⟩ := p
        subst e2
        have e1 : p1 = innerC x := hfa
        subst e1
        have HGS := Lib.hid (show gst zf zx rows.flatten xs (k + 1 + 1) = mxo (gst zf zx rows.flatten xs (k + 1)) (some (zx x)) from maxI_take (fun x => some (zx x)) _ Hx)
        have hbm := HBG.out (k + 1)
        have hfin : x.k ≠ 4 → ∀ y ∈ xs.take (k + 1 + 1 - 1), y.k ≠ 4 := fun hx4 y hy => by
          rw [show k + 1 + 1 - 1 = k + 1 by omega, take_succ_at Hx] at hy
          rcases List.mem_append.1 hy with hy | hy
          · exact HST.out.fine y hy
          · have e : y = x := by simpa using hy
            rw [e]; exact hx4
        have HFI := Lib.hid hfin
        have hlc := HX.out x (mem_at Hx)
        clear hvk hfin
        generalize zx x = z at hlc HGS
        generalize gst zf zx rows.flatten xs (k + 1) = M at hbm HGS ⊢
        have HBM := Lib.hid hbm
        clear hbm
        rcases hlc with ⟨rfl, hz1, hz2⟩ | ⟨rfl, rfl⟩ | ⟨rfl, rfl⟩ | ⟨t, rfl, hz0⟩
        · have he : wr.cell? ⟨n, 3, none⟩ = some (.iface 63 (.agg (fnumC (f16 z)))) := hel
          clear hel
          have hgt := order_mw (z := z) HBM.out hz1 hz2
          cases hu : ups M z
          · rw [hu] at hgt
            rw [mw_stay hu] at HGS
            clear hu
            go_wp2_with fail
            refine (next_es _ b es _ (HA.out.ext (by repeat (first | with_reducible exact Below.refl _ _ | with_reducible assumption | ((with_reducible refine Below.setCell ?_ ?_ _); rotate_left; (simp; try omega)) | (with_reducible refine Ext.tr ?_ (by with_reducible assumption)) | (with_reducible refine Ext.al ?_ _) | (with_reducible refine below_drewN ?_ _) | (with_reducible refine Below.drew ?_)))).es (k + 1) n _ HES.out).mono ?_
            rintro e w3 ⟨rfl, rfl⟩
            go_wp2
            go_roundg (xs.length + 1 - (k + 1 + 1))
            case measure => omega
            case rel => exact ⟨k + 1 + 1, by omega, by omega, rfl, by rw [HGS.out], HST.out.later (by repeat (first | with_reducible exact Below.refl _ _ | with_reducible assumption | ((with_reducible refine Below.setCell ?_ ?_ _); rotate_left; (simp; try omega)) | (with_reducible refine Ext.tr ?_ (by with_reducible assumption)) | (with_reducible refine Ext.al ?_ _) | (with_reducible refine below_drewN ?_ _) | (with_reducible refine Below.drew ?_))) (HFI.out (by decide))⟩
          · rw [hu] at hgt
            rw [mw_up hu] at HGS
            clear hu
            go_wp2_with fail
            refine (next_es _ b es _ (HA.out.ext (by repeat (first | with_reducible exact Below.refl _ _ | with_reducible assumption | ((with_reducible refine Below.setCell ?_ ?_ _); rotate_left; (simp; try omega)) | (with_reducible refine Ext.tr ?_ (by with_reducible assumption)) | (with_reducible refine Ext.al ?_ _) | (with_reducible refine below_drewN ?_ _) | (with_reducible refine Below.drew ?_)))).es (k + 1) n _ HES.out).mono ?_
            rintro e w3 ⟨rfl, rfl⟩
            go_wp2
            go_roundg (xs.length + 1 - (k + 1 + 1))
            case measure => omega
            case rel => exact ⟨k + 1 + 1, by omega, by omega, rfl, by rw [HGS.out]; rfl, HST.out.later (by repeat (first | with_reducible exact Below.refl _ _ | with_reducible assumption | ((with_reducible refine Below.setCell ?_ ?_ _); rotate_left; (simp; try omega)) | (with_reducible refine Ext.tr ?_ (by with_reducible assumption)) | (with_reducible refine Ext.al ?_ _) | (with_reducible refine below_drewN ?_ _) | (with_reducible refine Below.drew ?_))) (HFI.out (by decide))⟩
        · have he : wr.cell? ⟨n, 3, none⟩ = some (.iface 63 (.agg (fboolC 0))) := hel
          clear hel
          have hgt := order_mw (z := 0) HBM.out (by decide) (by decide)
          rw [f16_zero] at hgt
          cases hu : ups M 0
          · rw [hu] at hgt
            rw [mw_stay hu] at HGS
            clear hu
            go_wp2_with fail
            refine (next_es _ b es _ (HA.out.ext (by repeat (first | with_reducible exact Below.refl _ _ | with_reducible assumption | ((with_reducible refine Below.setCell ?_ ?_ _); rotate_left; (simp; try omega)) | (with_reducible refine Ext.tr ?_ (by with_reducible assumption)) | (with_reducible refine Ext.al ?_ _) | (with_reducible refine below_drewN ?_ _) | (with_reducible refine Below.drew ?_)))).es (k + 1) n _ HES.out).mono ?_
            rintro e w3 ⟨rfl, rfl⟩
            go_wp2
            go_roundg (xs.length + 1 - (k + 1 + 1))
            case measure => omega
            case rel => exact ⟨k + 1 + 1, by omega, by omega, rfl, by rw [HGS.out], HST.out.later (by repeat (first | with_reducible exact Below.refl _ _ | with_reducible assumption | ((with_reducible refine Below.setCell ?_ ?_ _); rotate_left; (simp; try omega)) | (with_reducible refine Ext.tr ?_ (by with_reducible assumption)) | (with_reducible refine Ext.al ?_ _) | (with_reducible refine below_drewN ?_ _) | (with_reducible refine Below.drew ?_))) (HFI.out (by decide))⟩
          · rw [hu] at hgt
            rw [mw_up hu] at HGS
            clear hu
            go_wp2_with fail
            refine (next_es _ b es _ (HA.out.ext (by repeat (first | with_reducible exact Below.refl _ _ | with_reducible assumption | ((with_reducible refine Below.setCell ?_ ?_ _); rotate_left; (simp; try omega)) | (with_reducible refine Ext.tr ?_ (by with_reducible assumption)) | (with_reducible refine Ext.al ?_ _) | (with_reducible refine below_drewN ?_ _) | (with_reducible refine Below.drew ?_)))).es (k + 1) n _ HES.out).mono ?_
            rintro e w3 ⟨rfl, rfl⟩
            go_wp2
            go_roundg (xs.length + 1 - (k + 1 + 1))
            case measure => omega
            case rel => exact ⟨k + 1 + 1, by omega, by omega, rfl, by rw [HGS.out]; exact congrArg (Value.float .f64) f16_zero.symm, HST.out.later (by repeat (first | with_reducible exact Below.refl _ _ | with_reducible assumption | ((with_reducible refine Below.setCell ?_ ?_ _); rotate_left; (simp; try omega)) | (with_reducible refine Ext.tr ?_ (by with_reducible assumption)) | (with_reducible refine Ext.al ?_ _) | (with_reducible refine below_drewN ?_ _) | (with_reducible refine Below.drew ?_))) (HFI.out (by decide))⟩
        · have he : wr.cell? ⟨n, 3, none⟩ = some (.iface 63 (.agg (fboolC 4607182418800017408))) := hel
          clear hel
          have hgt := order_mw (z := 16) HBM.out (by decide) (by decide)
          rw [← one_f16] at hgt
          cases hu : ups M 16
          · rw [hu] at hgt
            rw [mw_stay hu] at HGS
            clear hu
            go_wp2_with fail
            refine (next_es _ b es _ (HA.out.ext (by repeat (first | with_reducible exact Below.refl _ _ | with_reducible assumption | ((with_reducible refine Below.setCell ?_ ?_ _); rotate_left; (simp; try omega)) | (with_reducible refine Ext.tr ?_ (by with_reducible assumption)) | (with_reducible refine Ext.al ?_ _) | (with_reducible refine below_drewN ?_ _) | (with_reducible refine Below.drew ?_)))).es (k + 1) n _ HES.out).mono ?_
            rintro e w3 ⟨rfl, rfl⟩
            go_wp2
            go_roundg (xs.length + 1 - (k + 1 + 1))
            case measure => omega
            case rel => exact ⟨k + 1 + 1, by omega, by omega, rfl, by rw [HGS.out], HST.out.later (by repeat (first | with_reducible exact Below.refl _ _ | with_reducible assumption | ((with_reducible refine Below.setCell ?_ ?_ _); rotate_left; (simp; try omega)) | (with_reducible refine Ext.tr ?_ (by with_reducible assumption)) | (with_reducible refine Ext.al ?_ _) | (with_reducible refine below_drewN ?_ _) | (with_reducible refine Below.drew ?_))) (HFI.out (by decide))⟩
          · rw [hu] at hgt
            rw [mw_up hu] at HGS
            clear hu
            go_wp2_with fail
            refine (next_es _ b es _ (HA.out.ext (by repeat (first | with_reducible exact Below.refl _ _ | with_reducible assumption | ((with_reducible refine Below.setCell ?_ ?_ _); rotate_left; (simp; try omega)) | (with_reducible refine Ext.tr ?_ (by with_reducible assumption)) | (with_reducible refine Ext.al ?_ _) | (with_reducible refine below_drewN ?_ _) | (with_reducible refine Below.drew ?_)))).es (k + 1) n _ HES.out).mono ?_
            rintro e w3 ⟨rfl, rfl⟩
            go_wp2
            go_roundg (xs.length + 1 - (k + 1 + 1))
            case measure => omega
            case rel => exact ⟨k + 1 + 1, by omega, by omega, rfl, by rw [HGS.out]; exact congrArg (Value.float .f64) one_f16, HST.out.later (by repeat (first | with_reducible exact Below.refl _ _ | with_reducible assumption | ((with_reducible refine Below.setCell ?_ ?_ _); rotate_left; (simp; try omega)) | (with_reducible refine Ext.tr ?_ (by with_reducible assumption)) | (with_reducible refine Ext.al ?_ _) | (with_reducible refine below_drewN ?_ _) | (with_reducible refine Below.drew ?_))) (HFI.out (by decide))⟩
        · have he : wr.cell? ⟨n, 3, none⟩ = some (.iface 63 (.agg (ferrC t t))) := hel
          clear hel
          have hfind : xs.find? (fun x => x.k == 4) = some ⟨4, 0, t⟩ := by
            have hsplit : xs = xs.take k ++ ⟨4, 0, t⟩ :: xs.drop (k + 1) := by
              have h1 : xs[k] = ⟨4, 0, t⟩ := by
                have := Hx.out
                rw [List.getElem?_eq_getElem hxk] at this
                exact Option.some.inj this
              rw [← h1, ← List.drop_eq_getElem_cons hxk, List.take_append_drop]
            rw [hsplit, List.find?_append, List.find?_eq_none.2 (fun y hy => by
              have := HST.out.fine y hy
              simpa using this)]
            rfl
          have hres : innerC (sumRes xs (maxT zf zx rows.flatten xs)) = ferrC t t := by unfold sumRes; rw [hfind]; rfl
          have HRES := Lib.hid hres
          clear hfind hres
          go_wp2
          refine bodyPost_ret (v := .agg (innerC (sumRes xs (maxT zf zx rows.flatten xs)))) (by rw [HRES.out]; simp [results, Tryz.results44, go_sem, *]) rfl ⟨rfl, (by repeat (first | with_reducible exact Below.refl _ _ | with_reducible assumption | ((with_reducible refine Below.setCell ?_ ?_ _); rotate_left; (simp; try omega)) | (with_reducible refine Ext.tr ?_ (by with_reducible assumption)) | (with_reducible refine Ext.al ?_ _) | (with_reducible refine below_drewN ?_ _) | (with_reducible refine Below.drew ?_)))⟩
    · have hkl : k = xs.length + 1 := by omega
      have htok2 : elp es k = .pointer none := by unfold elp; rw [List.getElem?_eq_none (by omega)]
      rw [htok2] at htok
      subst htok
      have hfind : xs.find? (fun x => x.k == 4) = none := List.find?_eq_none.2 fun y hy => by
        have h := HST.out.fine y (by rw [List.take_of_length_le (by omega)]; exact hy)
        simpa using h
      have hT : gst zf zx rows.flatten xs k = maxI (fun x => some (zx x)) xs (maxI zf rows.flatten none) := by
        subst hkl
        show maxI _ (xs.take xs.length) _ = _
        rw [List.take_length]
      have hbm := HBG.out k
      rw [hT] at hbm ⊢
      have hres : innerC (sumRes xs (maxT zf zx rows.flatten xs)) = fnumC (f16 ((maxI (fun x => some (zx x)) xs (maxI zf rows.flatten none)).getD 0)) := by unfold sumRes; rw [hfind]; rfl
      have HRES := Lib.hid hres
      generalize maxI (fun x => some (zx x)) xs (maxI zf rows.flatten none) = M at hbm HRES ⊢
      clear hfind hres hT htok2 hkl
      cases M with
      | none =>
        have heq : (FloatKind.f64.format.order (mw none) lowW == some Ordering.eq) = true := by rw [show mw none = lowW from rfl, order_low_self]; rfl
        have HN := Lib.hid (fun w' => newNumber_ok 0 w' tame0)
        clear hbm
        go_wp2_with fail
        refine (HN.out _).mono ?_
        rintro e w2 ⟨rfl, hb2⟩
        (obtain ⟨hc2, hf2, hz2⟩ := ext_facts hb2; (try simp at hz2); (have hq2_0 : w.heap.size < w2.heap.size := by omega); (have hl2_0 : w.heap.size ≤ w2.heap.size := by omega); (have hr2_0 := fun o => hc2 (w.heap.size) o (by first | omega | (simp; done) | (simp; omega))); (have hs2_0 := fun o => hf2 (w.heap.size) o (by first | omega | (simp; done) | (simp; omega))); (try simp (disch := first | omega | (simp; omega)) only [World.cell?_alloc_past, World.cell?_drew] at hr2_0); (try simp (disch := first | omega | (simp; omega)) only [World.frozen?_alloc_past, World.frozen?_drew] at hs2_0); clear hc2 hf2)
        have hbw : Ext w w2 := hb.tr hb2
        have e0 : innerC (sumRes xs (maxT zf zx rows.flatten xs)) = fnumC 0 := by rw [HRES.out]; exact congrArg fnumC f16_zero
        have HE0 := Lib.hid e0
        clear e0
        go_wp2
        refine bodyPost_ret (v := .agg (innerC (sumRes xs (maxT zf zx rows.flatten xs)))) (by rw [HE0.out]; simp [results, Tryz.results44, go_sem, *]) rfl ⟨rfl, (by repeat (first | with_reducible exact Below.refl _ _ | with_reducible assumption | ((with_reducible refine Below.setCell ?_ ?_ _); rotate_left; (simp; try omega)) | (with_reducible refine Ext.tr ?_ (by with_reducible assumption)) | (with_reducible refine Ext.al ?_ _) | (with_reducible refine below_drewN ?_ _) | (with_reducible refine Below.drew ?_)))⟩
      | some z =>
        obtain ⟨z1, z2⟩ := hbm z rfl
        have heq : (FloatKind.f64.format.order (mw (some z)) lowW == some Ordering.eq) = false := by rw [show mw (some z) = f16 z from rfl, order_low (by omega) (by omega)]; rfl
        have HN := Lib.hid (fun w' => newNumber_ok (mw (some z)) w' (tame_f16 (by omega) (by omega)))
        clear hbm z1 z2
        go_wp2_with fail
        refine (HN.out _).mono ?_
        rintro e w2 ⟨rfl, hb2⟩
        (obtain ⟨hc2, hf2, hz2⟩ := ext_facts hb2; (try simp at hz2); (have hq2_0 : w.heap.size < w2.heap.size := by omega); (have hl2_0 : w.heap.size ≤ w2.heap.size := by omega); (have hr2_0 := fun o => hc2 (w.heap.size) o (by first | omega | (simp; done) | (simp; omega))); (have hs2_0 := fun o => hf2 (w.heap.size) o (by first | omega | (simp; done) | (simp; omega))); (try simp (disch := first | omega | (simp; omega)) only [World.cell?_alloc_past, World.cell?_drew] at hr2_0); (try simp (disch := first | omega | (simp; omega)) only [World.frozen?_alloc_past, World.frozen?_drew] at hs2_0); clear hc2 hf2)
        have hbw : Ext w w2 := hb.tr hb2
        have e0 : innerC (sumRes xs (maxT zf zx rows.flatten xs)) = fnumC (mw (some z)) := HRES.out
        have HE0 := Lib.hid e0
        clear e0
        go_wp2
        refine bodyPost_ret (v := .agg (innerC (sumRes xs (maxT zf zx rows.flatten xs)))) (by rw [HE0.out]; simp [results, Tryz.results44, go_sem, *]) rfl ⟨rfl, (by repeat (first | with_reducible exact Below.refl _ _ | with_reducible assumption | ((with_reducible refine Below.setCell ?_ ?_ _); rotate_left; (simp; try omega)) | (with_reducible refine Ext.tr ?_ (by with_reducible assumption)) | (with_reducible refine Ext.al ?_ _) | (with_reducible refine below_drewN ?_ _) | (with_reducible refine Below.drew ?_)))⟩

set_option maxHeartbeats 1600000 in
theorem fn_max (fb b B : Nat) (es : List (Nat × Value)) (ps : List (Array Value × Vt Iv)) (rows : List (List Iv)) (xs : List Iv) (zf : Iv → Option Int) (zx : Iv → Int) (w : World)
    (h : FArgs w b B es ps) (hv : vts ps = .mat rows :: xs.map .sc) (hl : xs.length ≤ 100) (hz : ∀ x ∈ rows.flatten, IvOk x ∧ Mz x (zf x)) (hx : ∀ x ∈ xs, SingOk x (zx x)) (hfl : rows.flatten.length ≤ 1000) :
    Calls Tryz.prog 24 #[ptr fb, ptr b] w (Gives w (.agg (innerC (sumRes xs (maxT zf zx rows.flatten xs))))) := by
  have hpl : ps.length = xs.length + 1 := by
    have := congrArg List.length hv
    simp only [vts, List.length_map, List.length_cons] at this
    omega
  have hesl := h.len
  have hne0 : ¬ ((es.length : Int) = 0) := by omega
  have c4 : w.cell? ⟨b, 4, none⟩ = some (.int .i64 es.length) := by rw [cell_of_block h.1.root]; rfl
  have HL := Lib.hid (fun (w' : World) (hw : Ext w w') => len_cell b es.length w' (hw.get c4))
  have HF := Lib.hid (fun (w' : World) (hw : Ext w w') => fn_maxValue fb b B es ps rows xs zf zx w' (h.ext hw) hv hl hz hx hfl)
  clear h hv hl hz hx hfl c4
  obtain ⟨f, s, bb, mm, kk, he⟩ := innerC_form (sumRes xs (maxT zf zx rows.flatten xs))
  rw [he] at HF ⊢
  go_enter Tryz.func24, Tryz.ntmps24
  go_wp2_with fail
  refine (HL.out _ (by repeat (first | with_reducible exact Below.refl _ _ | with_reducible assumption | ((with_reducible refine Below.setCell ?_ ?_ _); rotate_left; (simp; try omega)) | (with_reducible refine Ext.tr ?_ (by with_reducible assumption)) | (with_reducible refine Ext.al ?_ _) | (with_reducible refine below_drewN ?_ _) | (with_reducible refine Below.drew ?_)))).mono ?_
  rintro e w1 ⟨rfl, rfl⟩
  go_wp2_with fail
  refine (HF.out _ (by repeat (first | with_reducible exact Below.refl _ _ | with_reducible assumption | ((with_reducible refine Below.setCell ?_ ?_ _); rotate_left; (simp; try omega)) | (with_reducible refine Ext.tr ?_ (by with_reducible assumption)) | (with_reducible refine Ext.al ?_ _) | (with_reducible refine below_drewN ?_ _) | (with_reducible refine Below.drew ?_)))).mono ?_
  rintro e w2 ⟨rfl, hb2⟩
  (obtain ⟨hc2, hf2, hz2⟩ := ext_facts hb2; (try simp at hz2); (have hq2_0 : w.heap.size < w2.heap.size := by omega); (have hl2_0 : w.heap.size ≤ w2.heap.size := by omega); (have hr2_0 := fun o => hc2 (w.heap.size) o (by first | omega | (simp; done) | (simp; omega))); (have hs2_0 := fun o => hf2 (w.heap.size) o (by first | omega | (simp; done) | (simp; omega))); (try simp (disch := first | omega | (simp; omega)) only [World.cell?_alloc_past, World.cell?_drew] at hr2_0); (try simp (disch := first | omega | (simp; omega)) only [World.frozen?_alloc_past, World.frozen?_drew] at hs2_0); clear hc2 hf2)
  go_wp2
  exact bodyPost_ret (v := .agg #[.string ⟨#[]⟩, .float .f64 f, .string s, .slice none 0 0, .slice none 0 0, .bool bb, .string mm, .int .u8 kk, .pointer none, .pointer none]) (by simp [results, Tryz.results24, go_sem, *]) rfl ⟨rfl, (by repeat (first | with_reducible exact Below.refl _ _ | with_reducible assumption | ((with_reducible refine Below.setCell ?_ ?_ _); rotate_left; (simp; try omega)) | (with_reducible refine Ext.tr ?_ (by with_reducible assumption)) | (with_reducible refine Ext.al ?_ _) | (with_reducible refine below_drewN ?_ _) | (with_reducible refine Below.drew ?_)))⟩
end Go.Proofs.YtbehdafigmlnfaaGreatDoor
