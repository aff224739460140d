/-
  SUMPRODUCT of the package, and its doors.
-/
import Derived.Test.YtdakljeladhciaaGreatDoorSp
namespace Go.Proofs.YtdakljeladhciaaGreatDoor
set_option linter.unusedSimpArgs false
set_option linter.unusedVariables false
open Go Go.RowKit
set_option maxRecDepth 100000

structure SqSt (w wr : World) : Prop where
  ext : Ext w wr
  size : w.heap.size + 1 ≤ wr.heap.size
  out : ResAt wr w.heap.size

def SqRel (es : List (Nat × Value)) (w wr : World) (tok : Value) (g : Nat) : Prop := ∃ k : Nat, k ≤ 2 ∧ g + k = 2 ∧ tok = elp es k ∧ SqSt w wr

theorem SqSt.later {w wr w' : World} (h : SqSt w wr) (hk : Ext wr w') : SqSt w w' := by
  have hsz := h.size
  refine ⟨h.ext.tr hk, Nat.le_trans h.size hk.size, ?_⟩
  have hr := h.out
  unfold ResAt at hr ⊢
  rw [hk.block w.heap.size (by omega)]; exact hr

set_option maxHeartbeats 3200000 in
theorem fn_sumproduct (fb b B : Nat) (es : List (Nat × Value)) (ps : List (Array Value × Vt Iv)) (r1 r2 : List (List Iv)) (n1 n2 : Nat) (B1 B2 : Nat → Nat) (S : Nat → Int) (w : World)
    (h : FArgs w b B es ps) (hv : vts ps = [.mat r1, .mat r2]) (hn1 : r1.flatten.length = n1) (hn2 : r2.flatten.length = n2) (hl1 : n1 ≤ 1000) (hl2 : n2 ≤ 1000)
    (h1 : ∀ i x, r1.flatten[i]? = some x → CellW x oneW (B1 i)) (h2 : n1 = n2 → ∀ i x, r2.flatten[i]? = some x → CellW x (B1 i) (B2 i))
    (hs : n1 = n2 → S 0 = 0 ∧ (∀ k, k < n1 → Ieee.double.add (f16 (S k)) (B2 k) = some (f16 (S (k + 1)))) ∧ -2 ^ 53 < S n1 ∧ S n1 < 2 ^ 53) :
    Calls Tryz.prog 24 #[ptr fb, ptr b] w (Gives w (.agg (innerC (spRes n1 n2 (S n1))))) := by
  have hpl : ps.length = 2 := by
    have := congrArg List.length hv
    simpa only [vts, List.length_map, List.length_cons, List.length_nil] using this
  have hesl := h.len
  have c4 : w.cell? ⟨b, 4, none⟩ = some (.int .i64 es.length) := by rw [cell_of_block h.1.root]; rfl
  have HL := Lib.hid (fun (w' : World) (hw : Ext w w') => len_cell b es.length w' (hw.get c4))
  have HF := Lib.hid (fun (w' : World) (hw : Ext w w') => fn_sp fb b B es ps r1 r2 n1 n2 B1 B2 S w' (h.ext hw) hv hn1 hn2 hl1 hl2 h1 h2 hs)
  have HA := Lib.hid h; have HV := Lib.hid hv
  clear h hv hn1 hn2 h1 h2 hs c4
  obtain ⟨f, s, bb, mm, kk, he⟩ := innerC_form (spRes n1 n2 (S n1))
  rw [he] at HF ⊢
  go_enter Tryz.func24, Tryz.ntmps24
  go_wp2_with fail
  refine (HL.out _ (by repeat (first | with_reducible exact Below.refl _ _ | with_reducible assumption | ((with_reducible refine Below.setCell ?_ ?_ _); rotate_left; (simp; try omega)) | (with_reducible refine Ext.tr ?_ (by with_reducible assumption)) | (with_reducible refine Ext.al ?_ _) | (with_reducible refine below_drewN ?_ _) | (with_reducible refine Below.drew ?_)))).mono ?_
  rintro e w1 ⟨rfl, rfl⟩
  go_wp2_with fail
  refine (front_es _ b es _ (HA.out.es.ext (by repeat (first | with_reducible exact Below.refl _ _ | with_reducible assumption | ((with_reducible refine Below.setCell ?_ ?_ _); rotate_left; (simp; try omega)) | (with_reducible refine Ext.tr ?_ (by with_reducible assumption)) | (with_reducible refine Ext.al ?_ _) | (with_reducible refine below_drewN ?_ _) | (with_reducible refine Below.drew ?_))))).mono ?_
  rintro e w1 ⟨rfl, rfl⟩
  go_wp2
  go_loopg [5] 2 (fun gk tok wr => SqRel es w wr tok gk)
  case atStart => exact ⟨0, by omega, rfl, rfl, ⟨(by repeat (first | with_reducible exact Below.refl _ _ | with_reducible assumption | ((with_reducible refine Below.setCell ?_ ?_ _); rotate_left; (simp; try omega)) | (with_reducible refine Ext.tr ?_ (by with_reducible assumption)) | (with_reducible refine Ext.al ?_ _) | (with_reducible refine below_drewN ?_ _) | (with_reducible refine Below.drew ?_))), by simp, heap_alloc_new _ _ _ rfl⟩⟩
  case round =>
    obtain ⟨k, hk, hgk, htok, hst⟩ := hrel
    have HST := Lib.hid hst
    have hb := hst.ext
    obtain ⟨hrc, hrf⟩ := hst.out.facts
    have hsz := hst.size
    have hR1 : w.heap.size < wr.heap.size := by omega
    have HAR := Lib.hid (HA.out.ext hb)
    clear hst
    by_cases hlt : k < 2
    · obtain ⟨p, Hp⟩ := elem_at (show k < ps.length by omega)
      obtain ⟨n, hes, hel⟩ := HAR.out.es.elem (show (ps.map Prod.fst)[k]? = some p.1 by rw [List.getElem?_map, Hp.out]; rfl)
      have htok2 : elp es k = ptr n := by unfold elp; rw [hes]
      rw [htok2] at htok
      subst htok
      clear htok2
      unfold ElemAt at hel
      have hnl := lt_of_cell hel
      have hvk : (vts ps)[k]? = some p.2 := by unfold vts; rw [List.getElem?_map, Hp.out]; rfl
      rw [HV.out] at hvk
      have HES := Lib.hid hes
      obtain ⟨L, H, hH, _, hfa⟩ := HAR.out.2.2.2.2 k p Hp.out
      obtain ⟨p1, p2⟩ := p
      have hmat : ∃ (r : List (List Iv)) (b' c' q1 q2 : Nat), p1 = matC b' r.length c' q1 q2 := by
        rcases (show k = 0 ∨ k = 1 by omega) with rfl | rfl
        · have e2 : Vt.mat r1 = p2 := by simpa using hvk
          subst e2
          obtain ⟨_, _, b', c', q1, q2, hp1, _⟩ := hfa
          exact ⟨r1, b', c', q1, q2, hp1⟩
        · have e2 : Vt.mat r2 = p2 := by simpa using hvk
          subst e2
          obtain ⟨_, _, b', c', q1, q2, hp1, _⟩ := hfa
          exact ⟨r2, b', c', q1, q2, hp1⟩
      obtain ⟨r, b', c', q1, q2, e1⟩ := hmat
      subst e1
      clear hvk hfa
      go_wp2_with fail
      refine (next_es _ b es _ (HA.out.ext (Ext.tr hb (by repeat (first | with_reducible exact Below.refl _ _ | with_reducible assumption | ((with_reducible refine Below.setCell ?_ ?_ _); rotate_left; (simp; try omega)) | (with_reducible refine Ext.tr ?_ (by with_reducible assumption)) | (with_reducible refine Ext.al ?_ _) | (with_reducible refine below_drewN ?_ _) | (with_reducible refine Below.drew ?_))))).es k n _ HES.out).mono ?_
      rintro e w3 ⟨rfl, rfl⟩
      go_wp2
      go_roundg (2 - (k + 1))
      case measure => omega
      case rel => exact ⟨k + 1, by omega, by omega, rfl, HST.out.later (by repeat (first | with_reducible exact Below.refl _ _ | with_reducible assumption | ((with_reducible refine Below.setCell ?_ ?_ _); rotate_left; (simp; try omega)) | (with_reducible refine Ext.tr ?_ (by with_reducible assumption)) | (with_reducible refine Ext.al ?_ _) | (with_reducible refine below_drewN ?_ _) | (with_reducible refine Below.drew ?_)))⟩
    · have hk2 : 2 = k := by omega
      subst hk2
      have htok2 : elp es 2 = .pointer none := by unfold elp; rw [List.getElem?_eq_none (by omega)]
      rw [htok2] at htok
      subst htok
      clear htok2
      go_wp2_with fail
      refine (HF.out _ hb).mono ?_
      rintro e w2 ⟨rfl, hb2⟩
      (obtain ⟨hc2, hf2, hz2⟩ := ext_facts hb2; (try simp at hz2); (have hq2_0 : w.heap.size < w2.heap.size := by omega); (have hl2_0 : w.heap.size ≤ w2.heap.size := by omega); (have hr2_0 := fun o => hc2 (w.heap.size) o (by first | omega | (simp; done) | (simp; omega))); (have hs2_0 := fun o => hf2 (w.heap.size) o (by first | omega | (simp; done) | (simp; omega))); (try simp (disch := first | omega | (simp; omega)) only [World.cell?_alloc_past, World.cell?_drew] at hr2_0); (try simp (disch := first | omega | (simp; omega)) only [World.frozen?_alloc_past, World.frozen?_drew] at hs2_0); clear hc2 hf2)
      have hbw2 : Ext w w2 := hb.tr hb2
      go_wp2
      exact bodyPost_ret (v := .agg #[.string ⟨#[]⟩, .float .f64 f, .string s, .slice none 0 0, .slice none 0 0, .bool bb, .string mm, .int .u8 kk, .pointer none, .pointer none]) (by simp [results, Tryz.results24, go_sem, *]) rfl ⟨rfl, (by repeat (first | with_reducible exact Below.refl _ _ | with_reducible assumption | ((with_reducible refine Below.setCell ?_ ?_ _); rotate_left; (simp; try omega)) | (with_reducible refine Ext.tr ?_ (by with_reducible assumption)) | (with_reducible refine Ext.al ?_ _) | (with_reducible refine below_drewN ?_ _) | (with_reducible refine Below.drew ?_)))⟩

theorem door_sres (n1 n2 : Nat) (T : Int) (w : World) : Calls Tryz.prog 22 #[.agg (innerC (spRes n1 n2 T))] w (Gives w (spRes n1 n2 T).val) := by
  by_cases h : n1 = n2
  · rw [show spRes n1 n2 T = ⟨1, f16 T, ⟨#[]⟩⟩ from if_pos h]; exact doorArg_num _ w
  · rw [show spRes n1 n2 T = ⟨4, 0, ⟨#[35, 86, 65, 76, 85, 69, 33]⟩⟩ from if_neg h]; exact doorArg_err _ _ w

set_option maxHeartbeats 1600000 in
theorem door_sp (us : List (Im × Vt Iv)) (n : Nat) (hn : n = us.length) (r1 r2 : List (List Iv)) (n1 n2 : Nat) (B1 B2 : Nat → Nat) (S : Nat → Int) (b c : Nat) (w : World) (hl : us.length ≤ 1000000) (hx : ArgsIv w b 0 us) (hv : vts us = [.mat r1, .mat r2]) 
    (hok : ∀ u ∈ us, u.2.all IvOk) (hn1 : r1.flatten.length = n1) (hn2 : r2.flatten.length = n2) (hl1 : n1 ≤ 1000) (hl2 : n2 ≤ 1000)
    (h1 : ∀ i x, r1.flatten[i]? = some x → CellW x oneW (B1 i)) (h2 : n1 = n2 → ∀ i x, r2.flatten[i]? = some x → CellW x (B1 i) (B2 i))
    (hs : n1 = n2 → S 0 = 0 ∧ (∀ k, k < n1 → Ieee.double.add (f16 (S k)) (B2 k) = some (f16 (S (k + 1)))) ∧ -2 ^ 53 < S n1 ∧ S n1 < 2 ^ 53) :
    Calls Tryz.prog 15 #[.slice (some ⟨b, 0, none⟩) n c] w (Gives w (spRes n1 n2 (S n1)).val) := by
  subst hn
  have HI := Lib.hid (fun (w' : World) (hw : Ext w w') => innerList_vi us b c w' hl (hx.ext hw) hok)
  have HF := Lib.hid (fun (w' : World) (fb p B : Nat) es ps (h : FArgs w' p B es ps) (hq2 : vts ps = [.mat r1, .mat r2]) => fn_sumproduct fb p B es ps r1 r2 n1 n2 B1 B2 S w' h hq2 hn1 hn2 hl1 hl2 h1 h2 hs)
  have HO := Lib.hid (fun w' => door_sres n1 n2 (S n1) w')
  have HV := Lib.hid hv
  clear hx hok hs hv h1 h2 hn1 hn2
  generalize spRes n1 n2 (S n1) = res at HF HO ⊢
  go_enter Tryz.func15, Tryz.ntmps15
  (go_wp2_with fail; refine (doorFuncs_any _).mono ?_; rintro e w1 ⟨⟨fb, rfl⟩, hb1⟩; obtain ⟨hc1, hf1, hz1⟩ := ext_facts hb1; (try simp at hz1); (have hq1_0 : w.heap.size < w1.heap.size := by omega); (have hl1_0 : w.heap.size ≤ w1.heap.size := by omega); (have hr1_0 := fun o => hc1 (w.heap.size) o (by first | omega | (simp; done) | (simp; omega))); (have hs1_0 := fun o => hf1 (w.heap.size) o (by first | omega | (simp; done) | (simp; omega))); (try simp (disch := first | omega | (simp; omega)) only [World.cell?_alloc_past, World.cell?_drew] at hr1_0); (try simp (disch := first | omega | (simp; omega)) only [World.frozen?_alloc_past, World.frozen?_drew] at hs1_0); clear hc1 hf1)
  go_wp2_with fail
  refine (HI.out _ (by repeat (first | with_reducible exact Below.refl _ _ | with_reducible assumption | ((with_reducible refine Below.setCell ?_ ?_ _); rotate_left; (simp; try omega)) | (with_reducible refine Ext.tr ?_ (by with_reducible assumption)) | (with_reducible refine Ext.al ?_ _) | (with_reducible refine below_drewN ?_ _) | (with_reducible refine Below.drew ?_)))).mono ?_
  rintro e w2 ⟨p, es, ps, rfl, hargs, hps, hb2⟩
  have HA := Lib.hid hargs; have HPS := Lib.hid hps
  clear hargs hps
  (obtain ⟨hc2, hf2, hz2⟩ := ext_facts hb2; (try simp at hz2); (have hq2_0 : w.heap.size < w2.heap.size := by omega); (have hl2_0 : w.heap.size ≤ w2.heap.size := by omega); (have hr2_0 := fun o => hc2 (w.heap.size) o (by first | omega | (simp; done) | (simp; omega))); (have hs2_0 := fun o => hf2 (w.heap.size) o (by first | omega | (simp; done) | (simp; omega))); (try simp (disch := first | omega | (simp; omega)) only [World.cell?_alloc_past, World.cell?_drew] at hr2_0); (try simp (disch := first | omega | (simp; omega)) only [World.frozen?_alloc_past, World.frozen?_drew] at hs2_0); clear hc2 hf2)
  (go_wp2_with fail; refine (HF.out w2 fb p _ es ps HA.out (by rw [HPS.out, HV.out])).mono ?_; rintro e w3 ⟨rfl, hb3⟩; obtain ⟨hc3, hf3, hz3⟩ := ext_facts hb3; (try simp at hz3); (have hq3_0 : w.heap.size < w3.heap.size := by omega); (have hl3_0 : w.heap.size ≤ w3.heap.size := by omega); (have hr3_0 := fun o => hc3 (w.heap.size) o (by first | omega | (simp; done) | (simp; omega))); (have hs3_0 := fun o => hf3 (w.heap.size) o (by first | omega | (simp; done) | (simp; omega))); (try simp (disch := first | omega | (simp; omega)) only [World.cell?_alloc_past, World.cell?_drew] at hr3_0); (try simp (disch := first | omega | (simp; omega)) only [World.frozen?_alloc_past, World.frozen?_drew] at hs3_0); clear hc3 hf3)
  (go_wp2_with fail; refine (HO.out _).mono ?_; rintro e w4 ⟨rfl, hb4⟩; obtain ⟨hc4, hf4, hz4⟩ := ext_facts hb4; (try simp at hz4); (have hq4_0 : w.heap.size < w4.heap.size := by omega); (have hl4_0 : w.heap.size ≤ w4.heap.size := by omega); (have hr4_0 := fun o => hc4 (w.heap.size) o (by first | omega | (simp; done) | (simp; omega))); (have hs4_0 := fun o => hf4 (w.heap.size) o (by first | omega | (simp; done) | (simp; omega))); (try simp (disch := first | omega | (simp; omega)) only [World.cell?_alloc_past, World.cell?_drew] at hr4_0); (try simp (disch := first | omega | (simp; omega)) only [World.frozen?_alloc_past, World.frozen?_drew] at hs4_0); clear hc4 hf4)
  go_wp2
  exact bodyPost_ret (v := Iv.val res) (by simp [results, Tryz.results15, go_sem, *]) rfl ⟨rfl, (by repeat (first | with_reducible exact Below.refl _ _ | with_reducible assumption | ((with_reducible refine Below.setCell ?_ ?_ _); rotate_left; (simp; try omega)) | (with_reducible refine Ext.tr ?_ (by with_reducible assumption)) | (with_reducible refine Ext.al ?_ _) | (with_reducible refine below_drewN ?_ _) | (with_reducible refine Below.drew ?_)))⟩

set_option maxHeartbeats 1600000 in
theorem impl_sp (zs : List (Im × Vt Iv)) (n : Nat) (hn : n = zs.length) (r1 r2 : List (List Iv)) (n1 n2 : Nat) (B1 B2 : Nat → Nat) (S : Nat → Int) (b c : Nat) (w : World) (hl : zs.length ≤ 1000000) (hx : ArgsIv w b 0 zs) (hv : vts zs = [.mat r1, .mat r2]) 
    (hok1 : ∀ x ∈ r1.flatten, IvOk x) (hok2 : ∀ x ∈ r2.flatten, IvOk x) (hn1 : r1.flatten.length = n1) (hn2 : r2.flatten.length = n2) (hl1 : n1 ≤ 1000) (hl2 : n2 ≤ 1000)
    (h1 : ∀ i x, r1.flatten[i]? = some x → CellW x oneW (B1 i)) (h2 : n1 = n2 → ∀ i x, r2.flatten[i]? = some x → CellW x (B1 i) (B2 i))
    (hs : n1 = n2 → S 0 = 0 ∧ (∀ k, k < n1 → Ieee.double.add (f16 (S k)) (B2 k) = some (f16 (S (k + 1)))) ∧ -2 ^ 53 < S n1 ∧ S n1 < 2 ^ 53) :
    Calls Tryz.prog 6 #[.slice (some ⟨b, 0, none⟩) n c] w (Gives w (spRes n1 n2 (S n1)).val) := by
  subst hn
  have hne : zs ≠ [] := by intro h0; rw [h0] at hv; simp [vts] at hv
  have hzl : ∀ us : List (Im × Vt Iv), vts us = vts zs → us.length = zs.length := fun us h => by
    have := congrArg List.length h
    simpa [vts] using this
  have hoku : ∀ us : List (Im × Vt Iv), vts us = vts zs → ∀ u ∈ us, u.2.all IvOk := fun us h u hu => by
    have hm : u.2 ∈ vts us := List.mem_map.2 ⟨u, hu, rfl⟩
    rw [h, hv] at hm
    rcases List.mem_cons.1 hm with e | hm
    · rw [e]
      intro row hr x hxr
      exact hok1 x (List.mem_flatten.2 ⟨row, hr, hxr⟩)
    · rw [List.mem_singleton.1 hm]
      intro row hr x hxr
      exact hok2 x (List.mem_flatten.2 ⟨row, hr, hxr⟩)
  have HI := Lib.hid (fun (w' : World) (hw : Ext w w') => in_vi zs b c w' hl (hx.ext hw) hne)
  have HD := Lib.hid (fun (w' : World) (us : List (Im × Vt Iv)) (b' c' : Nat) (h : ArgsIv w' b' 0 us) (hq2 : vts us = vts zs) => door_sp us zs.length (hzl us hq2).symm r1 r2 n1 n2 B1 B2 S b' c' w' (by rw [hzl us hq2]; exact hl) h (hq2.trans hv) (hoku us hq2) hn1 hn2 hl1 hl2 h1 h2 hs)
  clear hx hok1 hok2 hs hv hzl hoku h1 h2 hn1 hn2
  generalize spRes n1 n2 (S n1) = res at HD ⊢
  go_enter Tryz.func6, Tryz.ntmps6
  go_wp2_with fail
  refine (HI.out _ (by repeat (first | with_reducible exact Below.refl _ _ | with_reducible assumption | ((with_reducible refine Below.setCell ?_ ?_ _); rotate_left; (simp; try omega)) | (with_reducible refine Ext.tr ?_ (by with_reducible assumption)) | (with_reducible refine Ext.al ?_ _) | (with_reducible refine below_drewN ?_ _) | (with_reducible refine Below.drew ?_)))).mono ?_
  rintro e w1 ⟨b', c', us, rfl, hargs, hus, hb1⟩
  have HA := Lib.hid hargs; have HU := Lib.hid hus
  clear hargs hus
  (obtain ⟨hc1, hf1, hz1⟩ := ext_facts hb1; (try simp at hz1); (have hq1_0 : w.heap.size < w1.heap.size := by omega); (have hl1_0 : w.heap.size ≤ w1.heap.size := by omega); (have hr1_0 := fun o => hc1 (w.heap.size) o (by first | omega | (simp; done) | (simp; omega))); (have hs1_0 := fun o => hf1 (w.heap.size) o (by first | omega | (simp; done) | (simp; omega))); (try simp (disch := first | omega | (simp; omega)) only [World.cell?_alloc_past, World.cell?_drew] at hr1_0); (try simp (disch := first | omega | (simp; omega)) only [World.frozen?_alloc_past, World.frozen?_drew] at hs1_0); clear hc1 hf1)
  (go_wp2_with fail; refine (HD.out w1 us b' c' HA.out HU.out).mono ?_; rintro e w2 ⟨rfl, hb2⟩; obtain ⟨hc2, hf2, hz2⟩ := ext_facts hb2; (try simp at hz2); (have hq2_0 : w.heap.size < w2.heap.size := by omega); (have hl2_0 : w.heap.size ≤ w2.heap.size := by omega); (have hr2_0 := fun o => hc2 (w.heap.size) o (by first | omega | (simp; done) | (simp; omega))); (have hs2_0 := fun o => hf2 (w.heap.size) o (by first | omega | (simp; done) | (simp; omega))); (try simp (disch := first | omega | (simp; omega)) only [World.cell?_alloc_past, World.cell?_drew] at hr2_0); (try simp (disch := first | omega | (simp; omega)) only [World.frozen?_alloc_past, World.frozen?_drew] at hs2_0); clear hc2 hf2)
  (go_wp2_with fail; refine (out_ok res _).mono ?_; rintro e w3 ⟨rfl, hb3⟩; obtain ⟨hc3, hf3, hz3⟩ := ext_facts hb3; (try simp at hz3); (have hq3_0 : w.heap.size < w3.heap.size := by omega); (have hl3_0 : w.heap.size ≤ w3.heap.size := by omega); (have hr3_0 := fun o => hc3 (w.heap.size) o (by first | omega | (simp; done) | (simp; omega))); (have hs3_0 := fun o => hf3 (w.heap.size) o (by first | omega | (simp; done) | (simp; omega))); (try simp (disch := first | omega | (simp; omega)) only [World.cell?_alloc_past, World.cell?_drew] at hr3_0); (try simp (disch := first | omega | (simp; omega)) only [World.frozen?_alloc_past, World.frozen?_drew] at hs3_0); clear hc3 hf3)
  go_wp2
  exact bodyPost_ret (v := Iv.val res) (by simp [results, Tryz.results6, go_sem, *]) rfl ⟨rfl, (by repeat (first | with_reducible exact Below.refl _ _ | with_reducible assumption | ((with_reducible refine Below.setCell ?_ ?_ _); rotate_left; (simp; try omega)) | (with_reducible refine Ext.tr ?_ (by with_reducible assumption)) | (with_reducible refine Ext.al ?_ _) | (with_reducible refine below_drewN ?_ _) | (with_reducible refine Below.drew ?_)))⟩
end Go.Proofs.YtdakljeladhciaaGreatDoor
