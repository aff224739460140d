/-
  in: arguments, matrices among them, as the package has them.
-/
import Derived.Test.YtpcfmkongpmmmaaGreatDoorAl2
namespace Go.Proofs.YtpcfmkongpmmmaaGreatDoor
set_option linter.unusedSimpArgs false
set_option linter.unusedVariables false
open Go Go.RowKit
set_option maxRecDepth 100000

theorem infoSlA : (Tryz.prog.info? 51).map (fun i => (i.zero, i.size, i.bytes)) = some (some (.slice none 0 0), 1, 24) := by kernel_rfl

theorem via_new (w : World) (x : Im) (y : Vt Iv) : GLie viCells 4 (w.alloc (.cells #[.int .i64 x.k, .float .f64 x.f, .string x.t, .slice x.ra x.rl x.rc] 49)) w.heap.size 0 [(x, y)] :=
  glie_one (cells := viCells) (z := 4) w (x, y) _ _ rfl

def InSt (zs : List (Im × Vt Iv)) (w wr : World) (v i : Value) : Prop :=
  ∃ (k : Nat) (us : List (Im × Vt Iv)), k ≤ zs.length ∧ i = .int .i64 k ∧ Ext w wr ∧ AOwns viCells 4 49 ViR wr w.heap.size v us ∧ vts us = vts (zs.take k)

/-- The rows of a matrix on their way into the package. -/
def InnSt (rows : List (List Iv)) (V : Nat) (w0 wr : World) (i : Value) : Prop :=
  ∃ (k : Nat) (u : Value), k ≤ rows.length ∧ i = .int .i64 k ∧ Ext w0 wr ∧ IVarAt 49 wr V 5 0 ⟨#[]⟩ u ∧ MOwns Iv.cells 4 51 wr (V + 1) u (rows.take k)

set_option maxHeartbeats 6400000 in
theorem in_vi (zs : List (Im × Vt Iv)) (b c : Nat) (w : World) (hl : zs.length ≤ 1000000) (hx : ArgsIv w b 0 zs) (hne : zs ≠ []) :
    Calls Tryz.prog 17 #[.slice (some ⟨b, 0, none⟩) zs.length c] w fun e w' => ∃ b' c' us, e = .returned (.slice (some ⟨b', 0, none⟩) zs.length c') ∧ ArgsIv w' b' 0 us ∧ vts us = vts zs ∧ Ext w w' := by
  have HX := Lib.hid hx; clear hx
  go_enter Tryz.func17, Tryz.ntmps17
  go_wp2
  go_loopw [3, 11] (fun v i wr => InSt zs w wr v i) (fun _ i _ => zs.length - (intOf i).toNat)
  case atStart => exact ⟨0, [], Nat.zero_le _, rfl, Ext.rf _, AOwns.nil _ _, rfl⟩
  case round =>
    obtain ⟨k, us, hk, rfl, hb, hown, hus⟩ := hrel
    have HO := Lib.hid hown; clear hown
    have HU := Lib.hid hus; clear hus
    have hszr := hb.size
    by_cases hlt : k < zs.length
    · obtain ⟨y, Hy⟩ := elem_at hlt
      have hvi := (HX.out.ext hb).2 k y Hy.out
      have hat := (HX.out.ext hb).1 k y Hy.out
      have hul : us.length = k := by
        have := congrArg List.length HU.out
        simp only [vts, List.length_map, List.length_take] at this
        omega
      obtain ⟨L, H, hH, hv⟩ := hvi
      obtain ⟨m, y2⟩ := y
      have hstep : ∀ m', vts (us ++ [(m', y2)]) = vts (zs.take (k + 1)) := fun m' => by
        have hu := HU.out
        unfold vts at hu ⊢
        rw [List.map_append, hu, map_take_succ' Hy]; rfl
      have HS := Lib.hid hstep; clear hstep
      cases y2 with
      | sc x =>
        have hm : m = x.im := hv
        subst hm
        have c0 := hat 0 _ rfl; have c1 := hat 1 _ rfl; have c2 := hat 2 _ rfl; have c3 := hat 3 _ rfl
        simp only [Nat.zero_add, Nat.add_zero] at c0 c1 c2 c3
        have hbl := lt_of_cell c0
        clear hat hv
        obtain ⟨xk, xf, xt⟩ := x
        go_wp2_with fail
        refine wp_loop_rounds 1 ?_
        rw [rounds_succ]
        go_wp2_with (at_builtin; (refine aappend viR_hangs (by decide) viCells_len viCells_one infoArg rfl Tryz.underlying51 (by decide) rfl _ _ rfl w.heap.size _ us rfl ((((HO.out.alloc viR_hangs _).alloc viR_hangs _).alloc viR_hangs _)) (wr.heap.size + 1 + 1) 0 1 (Iv.im ⟨xk, xf, xt⟩, .sc ⟨xk, xf, xt⟩) rfl (by have := via_new ((wr.alloc (.cells #[.int .i64 xk, .float .f64 xf, .string xt, .slice none 0 0] 43)).alloc (.cells #[.int .i64 xk, .float .f64 xf, .string xt, .slice none 0 0] 49)) (Iv.im ⟨xk, xf, xt⟩) (.sc ⟨xk, xf, xt⟩); simpa using this) (by omega) (by simp; omega) w.heap.size w.heap.size (Nat.le_refl _) (by simp; omega) (fun q hq => Or.inr (HO.out.below q hq)) rfl ?_); intro v' w2 hown2 hg2)
        have hb3 : Ext w w2 := Below.grown (((hb.al _).al _).al _) hg2 (by simp; omega) (fun q hq => HO.out.below q hq)
        have HO2 := Lib.hid hown2; clear hown2
        go_roundw
        case rel => exact ⟨k + 1, us ++ [(Iv.im ⟨xk, xf, xt⟩, .sc ⟨xk, xf, xt⟩)], by omega, by go_num, hb3, HO2.out, HS.out _⟩
        case measure => simp [intOf]; omega
      | mat rows =>
        obtain ⟨hrne0, hfl, gb0, gc0, hm, hb1, hb2, hml⟩ := hv
        have hm' : m = ⟨5, 0, ⟨#[]⟩, some ⟨gb0, 0, none⟩, rows.length, gc0⟩ := hm
        subst hm'
        have c0 := hat 0 _ rfl; have c1 := hat 1 _ rfl; have c2 := hat 2 _ rfl; have c3 := hat 3 _ rfl
        simp only [Nat.zero_add, Nat.add_zero] at c0 c1 c2 c3
        have hbl := lt_of_cell c0
        have hrl : rows.length ≤ 1000 := Nat.le_trans (rows_le_flatten fun row hr => by
          obtain ⟨i, hi⟩ := List.getElem?_of_mem hr
          exact (hml i row hi).1) hfl
        have HML := Lib.hid hml; have HFL := Lib.hid hfl
        clear hat hml hfl hm
        generalize wr = wo at *
        go_wp2
        obtain ⟨w0, hw0⟩ : ∃ w0, wo.alloc (.cells #[.int .i64 5, .float .f64 0, .string ⟨#[]⟩, .slice (some ⟨gb0, 0, none⟩) rows.length gc0] 43) = w0 := ⟨_, rfl⟩
        have hs0 : w0.heap.size = wo.heap.size + 1 := by rw [← hw0]; simp
        have hx0 : Ext wo w0 := by rw [← hw0]; exact (Ext.rf wo).al _
        have HW0 := Lib.hid hw0; clear hw0
        go_loopw [25] (fun i wr => InnSt rows (wo.heap.size + 1) w0 wr i) (fun i _ => rows.length - (intOf i).toNat)
        case atStart =>
          refine ⟨0, .slice none 0 0, Nat.zero_le _, rfl, ?_, ?_, MOwns.nil _ _⟩
          · rw [HW0.out]; exact (Ext.rf w0).al _
          · rw [HW0.out, ← hs0]; exact heap_alloc_new _ _
        case round =>
          obtain ⟨j, u, hj, rfl, hbi, hvar, howni⟩ := hrel
          have HV := Lib.hid hvar; have HOI := Lib.hid howni
          obtain ⟨v0, v1, v2, v3, vf⟩ := hvar.cells
          have hvl := block_lt_heap hvar
          clear hvar howni
          by_cases hjlt : j < rows.length
          · obtain ⟨row, Hr⟩ := elem_at hjlt
            obtain ⟨hrne, gb, rc, hcell, _, _, hgl⟩ := HML.out j row Hr.out
            have hcw := (hx0.tr hbi).get hcell
            simp only [Nat.zero_add] at hcw
            have hlen : row.length ≤ 1000 := Nat.le_trans (len_le_flatten (mem_at Hr)) HFL.out
            have HIN := Lib.hid (fun w' (hw : Ext wo w') => in_ok row gb 0 rc w' (by omega) (hgl.ext hw))
            clear hcell hgl
            have HXR := Lib.hid ((hx0.tr hbi))
            have hrl2 : (rows.take j).length = j := by rw [List.length_take]; omega
            go_wp2_with fail
            go_region_law (first
              | (go_simp; go_at_call 17; refine (HIN.out _ (HXR.out.tr (by repeat (first | with_reducible exact Below.refl _ _ | with_reducible assumption | ((with_reducible refine Below.setCell ?_ ?_ _); rotate_left; (simp; try omega)) | (with_reducible refine Ext.tr ?_ (by with_reducible assumption)) | (with_reducible refine Ext.al ?_ _) | (with_reducible refine below_drewN ?_ _) | (with_reducible refine Below.drew ?_))))).mono ?_; rintro e w2 ⟨v2, rfl, hown2, hb2⟩
                 obtain ⟨g2, cap2, hv2, hg2, hgl2⟩ := GOwns.lie Iv.cells_len hown2 hrne
                 subst hv2
                 have hgs2 := (World.ownsRow.lt hown2 g2 rfl).2
                 have hb2r : Ext wr w2 := Ext.tr (Below.drew (Ext.rf wr)) hb2
                 have HV2 := Lib.hid (IVarAt.ext HV.out hb2r)
                 have HO2 := Lib.hid (MOwns.ext HOI.out hb2r)
                 have HG2 := Lib.hid hgl2
                 obtain ⟨z0, z1, z2, z3, zf⟩ := HV2.out.cells
                 have hsz2 : wr.heap.size ≤ w2.heap.size := hb2.size
                 have hgd2 : wr.heap.size ≤ g2 := hg2
                 have hql2 : wo.heap.size + 1 < w2.heap.size := by omega
                 clear hown2 hgl2 hg2
                 dsimp only)
              | ((refine step_mappend infoSlA Tryz.underlying47 rfl _ _ (by rfl) (wo.heap.size + 1 + 1) _ (rows.take j) (by rfl) (HO2.out.alloc _) w2.heap.size 0 1 row (by rfl) g2 cap2 (by rw [World.cell?_alloc_at _ _ _ _ rfl]; simp) (HG2.out.ext ((Ext.rf _).al _)) hrne (by omega) (by simp; omega) (fun e => by have := HOI.out.lt g2 e; omega) (by omega) (by simp; omega) ?_)
                 intro g3 c3 w3 hown3 hg3
                 have HV3 := Lib.hid (IVarAt.grown (IVarAt.ext HV2.out ((Ext.rf _).al _)) hg3 (fun q hq => by have := HOI.out.below q hq; omega))
                 have HO3 := Lib.hid hown3
                 obtain ⟨y0, y1, y2, y3, yf⟩ := HV3.out.cells
                 clear hown3))
            all_goals
              have ho3 := HO3.out
              rw [hrl2] at ho3
              have HV4 := Lib.hid (HV3.out.set (.slice (some ⟨g3, 0, none⟩) (j + 1) c3))
              have HO4 := Lib.hid (ho3.setBelow (a := ⟨wo.heap.size + 1, 3, none⟩) (Nat.lt_succ_self _) (.slice (some ⟨g3, 0, none⟩) (j + 1) c3))
              have hb4 : Ext w0 w3 := Below.grown ((hbi.tr (Ext.tr (Below.drew (Ext.rf wr)) hb2)).al _) hg3 (by have := hbi.size; simp; omega) (fun q hq => by have := HOI.out.below q hq; omega)
              clear ho3 HO3
              go_wp2
              go_roundw
              case rel =>
                refine ⟨j + 1, .slice (some ⟨g3, 0, none⟩) (j + 1) c3, by omega, by go_num, ?_, ?_, ?_⟩
                · exact Below.setCell hb4 (show w0.heap.size ≤ wo.heap.size + 1 by rw [hs0]; exact Nat.le_refl _) _
                · exact HV4.out
                · rw [take_succ_at Hr]; exact HO4.out
              case measure => simp [intOf]; omega
          · have hfull : rows.take j = rows := List.take_of_length_le (by omega)
            have ho := HOI.out
            rw [hfull] at ho
            obtain ⟨g', c', hu, hg', hgl', hml'⟩ := ho.lie hrne0
            subst hu
            have HML2 := Lib.hid hml'
            have hbw : Ext wo wr := hx0.tr hbi
            have hbwr := hbw.size
            clear ho hml' hfull
            go_wp2_with (at_builtin; (refine aappend viR_hangs (by decide) viCells_len viCells_one infoArg rfl Tryz.underlying51 (by decide) rfl _ _ rfl w.heap.size _ us rfl ((HO.out.ext viR_hangs hbw).alloc viR_hangs _) wr.heap.size 0 1 (⟨5, 0, ⟨#[]⟩, some ⟨g', 0, none⟩, rows.length, c'⟩, .mat rows) rfl (via_new wr ⟨5, 0, ⟨#[]⟩, some ⟨g', 0, none⟩, rows.length, c'⟩ (.mat rows)) (by omega) (by simp; omega) (wo.heap.size + 1 + 1) wr.heap.size (by omega) (by simp) (fun q hq => Or.inl (by have := HO.out.lt q hq; omega)) ⟨hrne0, HFL.out, g', c', rfl, hg', hgl', HML2.out.ext ((Ext.rf _).al _)⟩ ?_); intro v' w2 hown2 hg2)
            have hb3 : Ext w w2 := Below.grown ((hb.tr hbw).al _) hg2 (by simp; omega) (fun q hq => HO.out.below q hq)
            have HO2 := Lib.hid hown2; clear hown2
            go_roundw
            case rel => exact ⟨k + 1, us ++ [(⟨5, 0, ⟨#[]⟩, some ⟨g', 0, none⟩, rows.length, c'⟩, .mat rows)], by omega, by go_num, hb3, HO2.out, HS.out _⟩
            case measure => simp [intOf]; omega
    · have hfull : zs.take k = zs := List.take_of_length_le (by omega)
      have hz := HU.out
      rw [hfull] at hz
      have hzl : us.length = zs.length := by
        have := congrArg List.length hz
        simpa [vts] using this
      have hzne : us ≠ [] := by
        intro h0; rw [h0] at hzl
        exact hne (List.eq_nil_of_length_eq_zero (by simpa using hzl.symm))
      obtain ⟨b', c', hv, _, _, hgl, hh⟩ := HO.out.lie viCells_len hzne
      have hargs : ArgsIv wr b' 0 us := ⟨hgl, fun i y hi => by
        obtain ⟨L, H, _, q2, q3⟩ := hh i y hi
        exact ⟨L, H, q2, q3⟩⟩
      rw [hzl] at hv
      have HV := Lib.hid hv; have HAR := Lib.hid hargs; have HZZ := Lib.hid hz
      clear hgl hh hargs hv hz hfull
      go_wp2
      refine bodyPost_ret (v := u3) (by simp [results, Tryz.results17, go_sem, *]) rfl ⟨b', c', us, by rw [HV.out], HAR.out, HZZ.out, hb⟩
end Go.Proofs.YtpcfmkongpmmmaaGreatDoor
