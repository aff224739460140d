/-
  members: the numbers of arguments that are taken together.
-/
import Derived.Test.YtpcfmkongpmmmaaGreatDoorMb
namespace Go.Proofs.YtpcfmkongpmmmaaGreatDoor
set_option linter.unusedSimpArgs false
set_option linter.unusedVariables false
open Go Go.RowKit
set_option maxRecDepth 100000

/-- Whether members takes an argument. -/
def okArg : Vt Sc → Bool
  | .mat rows => rows.flatten.all fun x => [1, 0, 2, 3].any fun n => x.k == n
  | .sc x => x.k == 1 || x.k == 3 || x.k == 4

/-- What members takes of an argument. -/
def outArg : Vt Sc → List Sc
  | .mat rows => rows.flatten.filter fun x => x.k == 1
  | .sc x => [ownOf x]

/-- The error that an argument is. -/
def badArg : Vt Sc → Option Sc
  | .mat _ => none
  | .sc x => if x.k = 4 then some x else none

abbrev zeroSc : Sc := ⟨0, 0, 0, ⟨#[]⟩⟩

/-- The first error among arguments. -/
def badOf (ys : List (Mc × Vt Sc)) : Option Sc := ys.findSome? fun y => badArg y.2

abbrev outsOf (ys : List (Mc × Vt Sc)) : List Sc := ys.flatMap fun y => outArg y.2

def MemPost (w : World) (ys : List (Mc × Vt Sc)) (e : Ending) (w' : World) : Prop :=
  ((ys.all fun y => okArg y.2) = false ∧ e = .returned (.tuple #[.slice none 0 0, unsure, .bool false]) ∧ Ext w w') ∨
  ((ys.all fun y => okArg y.2) = true ∧ ∃ v, e = .returned (.tuple #[v, ((badOf ys).getD zeroSc).val, .bool (!(badOf ys).isSome)]) ∧ Owns w' w.heap.size v (outsOf ys) ∧ Ext w w')

theorem ArgsIn.sub {w : World} {b o : Nat} {ys : List (Mc × Vt Sc)} (h : ArgsIn w b o ys) {k : Nat} {y : Mc × Vt Sc} (hk : ys[k]? = some y) : ArgsIn w b (o + k * 5) [y] := by
  refine ⟨fun i x hx j u hu => ?_, fun i x hx => ?_⟩
  · cases i with
    | zero =>
      have e : y = x := by simpa using hx
      subst e
      have := h.1 k y hk j u hu
      simpa using this
    | succ i => simp at hx
  · cases i with
    | zero =>
      have e : y = x := by simpa using hx
      subst e
      exact h.2 k y hk
    | succ i => simp at hx

theorem kindsAt_new (w : World) (n : Nat) (hn : n = w.heap.size) (t : TypeId) : KindsAt (w.alloc (.cells #[.int .i64 1, .int .i64 0, .int .i64 2, .int .i64 3] t)) n [1, 0, 2, 3] := by
  subst hn
  intro i n hi
  rw [World.cell?_alloc_at _ _ _ _ rfl]
  match i, hi with
  | 0, hi => simp at hi; subst hi; rfl
  | 1, hi => simp at hi; subst hi; rfl
  | 2, hi => simp at hi; subst hi; rfl
  | 3, hi => simp at hi; subst hi; rfl
  | i + 4, hi => simp at hi

theorem VarAt.grown {w w' : World} {V : Nat} {x : Sc} {r : Option Nat} (h : VarAt w V x) (hg : w.grownBy w' r) (hr : ∀ g, r = some g → V < g) : VarAt w' V x := by
  unfold VarAt at h ⊢
  rw [hg.block V (block_lt_heap h) (fun e => by have := hr V e.symm; omega)]; exact h

theorem badOf_take {ys : List (Mc × Vt Sc)} {k : Nat} {y : Mc × Vt Sc} (h : Hid (ys[k]? = some y)) : badOf (ys.take (k + 1)) = (badOf (ys.take k)).or (badArg y.2) := by
  unfold badOf
  rw [take_succ_at h, List.findSome?_append]
  simp

theorem outsOf_take {ys : List (Mc × Vt Sc)} {k : Nat} {y : Mc × Vt Sc} (h : Hid (ys[k]? = some y)) : outsOf (ys.take (k + 1)) = outsOf (ys.take k) ++ outArg y.2 := by
  unfold outsOf
  rw [take_succ_at h, List.flatMap_append]
  simp

theorem outsOf_len {ys : List (Mc × Vt Sc)} (k : Nat) (h : ∀ y ∈ ys, (outArg y.2).length ≤ 1000) : (outsOf (ys.take k)).length ≤ 1000 * ys.length := by
  induction ys generalizing k with
  | nil => simp [outsOf]
  | cons y ys ih =>
    cases k with
    | zero => simp [outsOf]
    | succ k =>
      have h1 := ih k fun y' hy => h y' (List.mem_cons_of_mem _ hy)
      have h2 := h y (List.mem_cons_self ..)
      unfold outsOf at h1 ⊢
      rw [List.take_succ_cons, List.flatMap_cons, List.length_append, List.length_cons]
      omega

theorem okAll_take {ys : List (Mc × Vt Sc)} {k : Nat} {y : Mc × Vt Sc} (h : Hid (ys[k]? = some y)) : ((ys.take (k + 1)).all fun y => okArg y.2) = (((ys.take k).all fun y => okArg y.2) && okArg y.2) := by
  rw [take_succ_at h, List.all_append]
  simp

/-- append of values, with where the new slice lies. -/
theorem append_vals_at {ops : Array Oper} {rest : List Oper} {o : Oper} {a : Act} {Q : Exit → Act → World → Prop} (hgd : o.guard = none) (s x : Operand) {w : World}
    (ho : o.op = .call { callee := .builtin .append, args := #[s, x], argTypes := #[31, 31] })
    (B : Nat) (v : Value) (xs : List Sc) (hs : a.eval s = v) (hown : Owns w B v xs) (b bo c : Nat) (ys : List Sc) (hx : a.eval x = .slice (some ⟨b, bo, none⟩) ys.length c)
    (hy : Lie w b bo ys) (hlen : xs.length + ys.length ≤ 1000000000000) (hB : B ≤ w.heap.size)
    (h : ∀ v' w', Owns w' B v' (xs ++ ys) → w.grownBy w' v.ownBlock → (v'.ownBlock = v.ownBlock ∨ v'.ownBlock = some w.heap.size) → wpList Tryz.prog ops Q rest (a.put o.dst v') w') : wpList Tryz.prog ops Q (o :: rest) a w := by
  obtain ⟨i0, hi, hz0, hz1, hz2⟩ := info_parts infoVal
  refine wpList_append_own_at w hgd s x 31 ho B 28 i0 _ 5 64 Tryz.underlying31 hi hz0 hz1 hz2 rfl (by decide) v xs.length (xs.flatMap Sc.cells) hs hown
    ⟨b, bo, none⟩ ys.length c (ys.flatMap Sc.cells) hx (flat_len Sc.cells_len ys) hy.news ?_ (by unfold maxLen; omega) (by omega) hB ?_
  · intro u hu
    obtain ⟨x, _, hx⟩ := List.mem_flatMap.1 hu
    exact x.cells_one u hx
  · intro v' w' h1 h2 _ h4
    refine h v' w' ?_ h2 h4
    unfold Owns
    rw [List.length_append, List.flatMap_append]
    exact h1

theorem Lie.grown {w w' : World} {b o : Nat} {xs : List Sc} {r : Option Nat} (h : Lie w b o xs) (hg : w.grownBy w' r) (hr : r ≠ some b) : Lie w' b o xs := fun i x hx => by
  obtain ⟨h0, h1, h2, h3, h4⟩ := h i x hx
  exact ⟨hg.cell h0 hr.symm, hg.cell h1 hr.symm, hg.cell h2 hr.symm, hg.cell h3 hr.symm, hg.cell h4 hr.symm⟩

theorem filter_take {zs : List Sc} {j : Nat} {x : Sc} (h : Hid (zs[j]? = some x)) (p : Sc → Bool) : (zs.take (j + 1)).filter p = (zs.take j).filter p ++ (if p x then [x] else []) := by
  rw [take_succ_at h, List.filter_append]
  simp [List.filter_cons]

theorem lie_oneAt (w : World) (n : Nat) (hn : n = w.heap.size) (x : Sc) : Lie (w.alloc (.cells #[.int .i64 x.k, .int .i64 x.n, .int .i64 x.d, .string x.t, .slice none 0 0] 28)) n 0 [x] := by
  subst hn; exact lie_one w x

set_option maxHeartbeats 6400000 in
theorem members_ok (ys : List (Mc × Vt Sc)) (b o c : Nat) (w : World) (hl : ys.length ≤ 1000000) (hc : ys.length ≤ c) (hx : ArgsIn w b o ys)
    (h3 : ∀ y ∈ ys, ∀ x, y.2 = .sc x → x.k = 3 → x.n = 0 ∨ x.n = 1) (hN : ∀ y ∈ ys, (outArg y.2).length ≤ 1000) :
    Calls Tryz.prog 145 #[.slice (some ⟨b, o, none⟩) ys.length c, .bool false] w (MemPost w ys) := by
  have HX := Lib.hid hx; clear hx
  have H3 := Lib.hid h3; clear h3
  have HNN := Lib.hid (fun k => outsOf_len k hN); clear hN
  go_enter Tryz.func145, Tryz.ntmps145
  go_wp2
  obtain ⟨wa, hwa⟩ : ∃ wa, w.alloc (.cells #[.int .i64 0, .int .i64 0, .int .i64 0, .string ⟨#[]⟩, .slice none 0 0] 28) = wa := ⟨_, rfl⟩
  have hsa : wa.heap.size = w.heap.size + 1 := by rw [← hwa]; simp
  have hxa : Ext w wa := by rw [← hwa]; exact (Ext.rf w).al _
  have HWA := Lib.hid hwa; clear hwa
  go_loopw [7, 9, 10] (fun v r i wr => ∃ k : Nat, k ≤ ys.length ∧ i = .int .i64 k ∧ Ext wa wr ∧ Owns wr (w.heap.size + 2) v (outsOf (ys.take k)) ∧ r = .bool (badOf (ys.take k)).isSome ∧
      VarAt wr (w.heap.size + 1) ((badOf (ys.take k)).getD zeroSc) ∧ ((ys.take k).all fun y => okArg y.2) = true) (fun _ _ i _ => ys.length - (intOf i).toNat)
  case atStart =>
    refine ⟨0, Nat.zero_le _, rfl, ?_, Owns.nil _ _, rfl, ?_, rfl⟩
    · rw [HWA.out]; exact (Ext.rf wa).al _
    · rw [HWA.out, ← hsa]; exact VarAt.new wa ⟨0, 0, 0, ⟨#[]⟩⟩
  case round =>
    obtain ⟨k, hk, rfl, hb, hown, rfl, hvar, hall⟩ := hrel
    have HO := Lib.hid hown; clear hown
    have HV := Lib.hid hvar
    have HA := Lib.hid hall; clear hall
    have hbw : Ext w wr := hxa.tr hb
    have hvl : w.heap.size + 1 < wr.heap.size := block_lt_heap hvar
    clear hvar
    have hres := fun o => hb.cell (p := ⟨w.heap.size, o, none⟩) (by rw [hsa]; exact Nat.lt_succ_self _)
    have hresf := fun o => hb.frozen (p := ⟨w.heap.size, o, none⟩) (by rw [hsa]; exact Nat.lt_succ_self _)
    rw [← HWA.out] at hres hresf
    by_cases hlt : k < ys.length
    · obtain ⟨y, Hy⟩ := elem_at hlt
      have hat := (HX.out.ext hbw).at5 Hy.out
      obtain ⟨L, H, hH, hvr⟩ := (HX.out.ext hbw).2 k y Hy.out
      obtain ⟨m, y2⟩ := y
      cases y2 with
      | mat rows =>
        obtain ⟨rws, hro, hof⟩ := VtR.rows hvr hH
        have hvr0 := hvr
        obtain ⟨q1, q2, q3, g0, c0, q4, q5⟩ := hvr0
        have q4' : m = ⟨5, 0, 0, ⟨#[]⟩, some ⟨g0, 0, none⟩, rows.length, c0⟩ := q4
        subst q4'
        have hne : rows.flatten ≠ [] := by
          intro h0
          have h1 : rows.length ≤ rows.flatten.length := rows_le_flatten (fun row hr => by
            obtain ⟨i, hi⟩ := List.getElem?_of_mem hr
            exact (q5.2.2 i row hi).1)
          rw [h0] at h1
          exact q1 (List.eq_nil_of_length_eq_zero (by simpa using h1))
        have hkk := fun w' (hw : Ext wr w') b' c' (h : KindsAt w' b' [1, 0, 2, 3]) => kinds_ok ⟨5, 0, 0, ⟨#[]⟩, some ⟨g0, 0, none⟩, rows.length, c0⟩ rws [1, 0, 2, 3] b' c' w' rfl (hro.ext hw) rows.flatten hof hne (by omega) (by simp) h
        have hok := okAll_take Hy
        rw [HA.out, Bool.true_and] at hok
        have HOK := Lib.hid hok; clear hok
        have hoa : okArg (.mat rows) = rows.flatten.all fun x => [1, 0, 2, 3].any fun n => x.k == n := rfl
        obtain ⟨d0, d1, d2, d3, d4⟩ := hat
        clear hro hvr
        cases hq : rows.flatten.all fun x => [1, 0, 2, 3].any fun n => x.k == n
        · rw [hq] at hkk hoa
          have HKK := Lib.hid hkk; clear hkk
          have HOA := Lib.hid hoa; clear hoa
          clear hq hof q5
          go_wp2_with fail
          refine (HKK.out _ ((Ext.rf _).al _) _ _ (kindsAt_new _ _ rfl _)).mono ?_
          rintro e w1 ⟨rfl, hb1⟩
          (obtain ⟨hc1, hf1, hz1⟩ := ext_facts hb1; (try simp at hz1); (have hq1_0 : w.heap.size < w1.heap.size := by omega); (have hl1_0 : w.heap.size ≤ w1.heap.size := by omega); (have hr1_0 := fun o => hc1 (w.heap.size) o (by first | omega | (simp; done) | (simp; omega))); (have hs1_0 := fun o => hf1 (w.heap.size) o (by first | omega | (simp; done) | (simp; omega))); (try simp (disch := first | omega | (simp; omega)) only [World.cell?_alloc_past, World.cell?_drew] at hr1_0); (try simp (disch := first | omega | (simp; omega)) only [World.frozen?_alloc_past, World.frozen?_drew] at hs1_0); clear hc1 hf1)
          (go_wp2_with fail; refine (doubt_any _).mono ?_; rintro e w2 ⟨rfl, hb2⟩; obtain ⟨hc2, hf2, hz2⟩ := ext_facts hb2; (try simp at hz2); (have hq2_0 : w.heap.size < w2.heap.size := by omega); (have hl2_0 : w.heap.size ≤ w2.heap.size := by omega); (have hr2_0 := fun o => hc2 (w.heap.size) o (by first | omega | (simp; done) | (simp; omega))); (have hs2_0 := fun o => hf2 (w.heap.size) o (by first | omega | (simp; done) | (simp; omega))); (try simp (disch := first | omega | (simp; omega)) only [World.cell?_alloc_past, World.cell?_drew] at hr2_0); (try simp (disch := first | omega | (simp; omega)) only [World.frozen?_alloc_past, World.frozen?_drew] at hs2_0); clear hc2 hf2)
          have hbf : Ext w w2 := ((hbw.al _).tr hb1).tr hb2
          have hall : (ys.all fun y => okArg y.2) = false := List.all_eq_false.2 ⟨_, mem_at Hy, by rw [HOA.out]; simp⟩
          have HALL := Lib.hid hall; clear hall
          go_wp2
          exact bodyPost_ret (v := .tuple #[.slice none 0 0, unsure, .bool false]) (by simp [results, Tryz.results145, go_sem, *]) rfl (Or.inl ⟨HALL.out, rfl, (by repeat (first | with_reducible exact Below.refl _ _ | with_reducible assumption | ((with_reducible refine Below.setCell ?_ ?_ _); rotate_left; (simp; try omega)) | (with_reducible refine Ext.tr ?_ (by with_reducible assumption)) | (with_reducible refine Ext.al ?_ _) | (with_reducible refine below_drewN ?_ _) | (with_reducible refine Below.drew ?_)))⟩)
        · rw [hq] at hkk hoa
          have HKK := Lib.hid hkk; clear hkk
          have HOA := Lib.hid hoa; clear hoa
          have hfl : ∀ w', Ext wr w' → Calls Tryz.prog 22 #[.slice (some ⟨b, o + k * 5, none⟩) 1 (c - k)] w' (FlatGives w' rows.flatten) := fun w' hw => by
            have h := flat_vt [(⟨5, 0, 0, ⟨#[]⟩, some ⟨g0, 0, none⟩, rows.length, c0⟩, .mat rows)] b (o + k * 5) (c - k) w' (by simp) ((HX.out.ext (hbw.tr hw)).sub Hy.out) (by show (List.flatMap _ [_]).length ≤ _; rw [List.flatMap_singleton]; show rows.flatten.length ≤ _; omega)
            simpa [flatOf, Vt.flat] using h
          have HFL := Lib.hid hfl; clear hfl
          have hol := outsOf_take Hy
          rw [show outArg (.mat rows) = rows.flatten.filter fun x => x.k == 1 from rfl] at hol
          have hbd := badOf_take Hy
          rw [show badArg (.mat rows) = none from rfl, Option.or_none] at hbd
          clear hq hof q5 q1 q3
          generalize rows.flatten = zs at hne HKK HFL hol q2
          have HOL := Lib.hid hol; clear hol
          have HBD := Lib.hid hbd; clear hbd
          have HNE := Lib.hid hne; clear hne
          have hkc : (k : Int) + 1 ≤ c := by omega
          go_wp2_with fail
          refine (HKK.out _ ((Ext.rf _).al _) _ _ (kindsAt_new _ _ rfl _)).mono ?_
          rintro e w1 ⟨rfl, hb1⟩
          (obtain ⟨hc1, hf1, hz1⟩ := ext_facts hb1; (try simp at hz1); (have hq1_0 : w.heap.size < w1.heap.size := by omega); (have hl1_0 : w.heap.size ≤ w1.heap.size := by omega); (have hr1_0 := fun o => hc1 (w.heap.size) o (by first | omega | (simp; done) | (simp; omega))); (have hs1_0 := fun o => hf1 (w.heap.size) o (by first | omega | (simp; done) | (simp; omega))); (try simp (disch := first | omega | (simp; omega)) only [World.cell?_alloc_past, World.cell?_drew] at hr1_0); (try simp (disch := first | omega | (simp; omega)) only [World.frozen?_alloc_past, World.frozen?_drew] at hs1_0); clear hc1 hf1)
          have hb1r : Ext wr w1 := ((Ext.rf wr).al _).tr hb1
          go_wp2_with fail
          refine (HFL.out _ hb1r).mono ?_
          rintro e w2 ⟨v2, rfl, hown2, hb2⟩
          obtain ⟨g, cap, rfl, hg, hlie⟩ := hown2.lie HNE.out
          have HL := Lib.hid hlie; clear hlie hown2
          have hb2r : Ext wr w2 := hb1r.tr hb2
          have hb2a : Ext wa w2 := hb.tr hb2r
          have hz1s := hb1r.size
          have HO2 := Lib.hid (HO.out.ext hb2r)
          have HV2 := Lib.hid (HV.out.ext hb2r)
          have hvg : u7.ownBlock ≠ some g := by
            intro e
            have := (World.ownsRow.lt HO.out g e).2
            omega
          have hgl : g < w2.heap.size := by
            obtain ⟨x, hx⟩ := List.exists_mem_of_ne_nil _ HNE.out
            obtain ⟨i, hi⟩ := List.getElem?_of_mem hx
            exact lt_of_cell (HL.out i x hi).1
          go_wp2
          go_loopw [7, 12] (fun v i wq => ∃ j : Nat, j ≤ zs.length ∧ i = .int .i64 j ∧ Ext wa wq ∧ g < wq.heap.size ∧ VarAt wq (w.heap.size + 1) ((badOf (ys.take k)).getD zeroSc) ∧ Lie wq g 0 zs ∧ v.ownBlock ≠ some g ∧
              Owns wq (w.heap.size + 2) v (outsOf (ys.take k) ++ (zs.take j).filter fun x => x.k == 1)) (fun _ i _ => zs.length - (intOf i).toNat)
          case atStart => exact ⟨0, Nat.zero_le _, rfl, hb2a, hgl, HV2.out, HL.out, hvg, by simpa using HO2.out⟩
          case round =>
            obtain ⟨j, hj, rfl, hbq, hglq, hvq, hlq, hvgq, hoq⟩ := hrel
            have HVQ := Lib.hid hvq; clear hvq
            have HOQ := Lib.hid hoq; clear hoq
            have HLQ := Lib.hid hlq
            by_cases hjlt : j < zs.length
            · obtain ⟨x, Hx⟩ := elem_at hjlt
              obtain ⟨e0, e1, e2, e3, e4⟩ := hlq.head Hx.out
              have hft := filter_take Hx fun x => x.k == 1
              have hszq := hbq.size
              clear hlq
              cases hx1 : (x.k == 1)
              · simp only [hx1] at hft
                have HFT := Lib.hid hft; clear hft
                go_wp2
                go_roundw
                case rel => exact ⟨j + 1, by omega, by go_num, hbq, hglq, HVQ.out, HLQ.out, hvgq, by rw [HFT.out]; simpa using HOQ.out⟩
                case measure => simp [intOf]; omega
              · obtain ⟨xk, xn, xd, xt⟩ := x
                have hk1 : xk = 1 := by simpa using hx1
                subst hk1
                clear hx1
                simp only [show ((1 : Int) == 1) = true from rfl] at hft
                have HFT := Lib.hid hft; clear hft
                have hlen : (outsOf (ys.take k) ++ (zs.take j).filter fun x => x.k == 1).length ≤ 1000001000 := by
                  have h1 := HNN.out k
                  have h2 := List.length_filter_le (fun x : Sc => x.k == 1) (zs.take j)
                  rw [List.length_take] at h2
                  rw [List.length_append]
                  omega
                go_wp2_with (at_builtin; (refine append_vals_at rfl _ _ rfl (w.heap.size + 2) _ (outsOf (ys.take k) ++ (zs.take j).filter fun x => x.k == 1) rfl (HOQ.out.alloc _) wr.heap.size 0 1 [⟨1, xn, xd, xt⟩] rfl (lie_one wr ⟨1, xn, xd, xt⟩) (by simp only [List.length_singleton]; omega) (by simp; omega) ?_); intro v' w3 hown3 hg3 hat3)
                have hvr : Ext wa w3 := Below.grown (hbq.al _) hg3 (by simp; omega) (fun q hq => by have := HOQ.out.below q hq; omega)
                have hnb : VarAt w3 (w.heap.size + 1) ((badOf (ys.take k)).getD zeroSc) := (HVQ.out.ext ((Ext.rf _).al _)).grown hg3 (fun q hq => by have := HOQ.out.below q hq; omega)
                have hnl : Lie w3 g 0 zs := (HLQ.out.ext ((Ext.rf _).al _)).grown hg3 hvgq
                have hng : v'.ownBlock ≠ some g := by
                  rcases hat3 with h | h
                  · rw [h]; exact hvgq
                  · rw [h]; intro e; have e2 := Option.some.inj e; rw [← e2] at hglq; simp only [World.size_alloc] at hglq; omega
                have hsz3 := hg3.size
                simp only [World.size_alloc] at hsz3
                have HNB := Lib.hid hnb; have HNL := Lib.hid hnl; have HO3 := Lib.hid hown3
                clear hnb hnl hown3
                go_roundw
                case rel => exact ⟨j + 1, by omega, by go_num, hvr, by omega, HNB.out, HNL.out, hng, by rw [HFT.out, ← List.append_assoc]; exact HO3.out⟩
                case measure => simp [intOf]; omega
            · have hfull : (zs.take j) = zs := List.take_of_length_le (by omega)
              rw [hfull] at HOQ
              go_wp2
              go_roundw
              case rel => exact ⟨k + 1, by omega, by go_num, hbq, by rw [HOL.out]; exact HOQ.out, by rw [HBD.out], by rw [HBD.out]; exact HVQ.out, by rw [HOK.out]; exact HOA.out⟩
              case measure => simp [intOf]; omega
      | sc x =>
        obtain ⟨hm, hk5⟩ := hvr
        have hm' : m = x.mc := hm
        subst hm'
        obtain ⟨d0, d1, d2, d3, d4⟩ := hat
        have hown := fun w' => own_ok x w' (H3.out _ (mem_at Hy) x rfl)
        have hok := okAll_take Hy
        rw [HA.out, Bool.true_and] at hok
        have hol := outsOf_take Hy
        rw [show outArg (.sc x) = [ownOf x] from rfl] at hol
        have hbd := badOf_take Hy
        have hoa : okArg (.sc x) = (x.k == 1 || x.k == 3 || x.k == 4) := rfl
        have hba : badArg (.sc x) = if x.k = 4 then some x else none := rfl
        have HOK := Lib.hid hok; clear hok
        have HOL := Lib.hid hol; clear hol
        have HBD := Lib.hid hbd; clear hbd
        by_cases h13 : x.k = 1 ∨ x.k = 3
        · have h1 : (ownOf x).k = 1 := by
            unfold ownOf
            rcases h13 with h | h
            · rw [if_pos h]; exact h
            · rw [if_neg (by omega), if_pos h]
          have hb13 : (x.k == 1 || x.k == 3) = true := by rcases h13 with h | h <;> simp [h]
          rw [hb13] at hown
          rw [hb13, Bool.true_or] at hoa
          rw [if_neg (by omega)] at hba
          obtain ⟨xk, xn, xd, xt⟩ := x
          obtain ⟨z, hz⟩ : ∃ z, ownOf ⟨xk, xn, xd, xt⟩ = z := ⟨_, rfl⟩
          rw [hz] at hown h1 HOL
          obtain ⟨zk, zn, zd, zt⟩ := z
          have h1' : zk = 1 := h1
          subst h1'
          have HOWN := Lib.hid hown; have HOA := Lib.hid hoa; have HBA := Lib.hid hba
          have hk5' : (xk == 5) = false := beq_eq_false_iff_ne.2 hk5
          clear hown hoa hba hz h1 h13 hb13 hk5
          go_wp2_with fail
          refine (HOWN.out _).mono ?_
          rintro e w1 ⟨rfl, hb1⟩
          have hsz1 := hb1.size
          have hlen := HNN.out k
          go_wp2_with (at_builtin; (refine append_vals rfl _ _ rfl (w.heap.size + 2) _ (outsOf (ys.take k)) rfl (((HO.out.ext hb1).alloc _).alloc _) (w1.heap.size + 1) 0 1 [⟨1, zn, zd, zt⟩] rfl (lie_oneAt _ _ (by simp) ⟨1, zn, zd, zt⟩) (by simp only [List.length_singleton]; omega) (by simp; omega) ?_); intro v' w3 hown3 hg3)
          have hb3 : Ext wa w3 := Below.grown (((hb.tr hb1).al _).al _) hg3 (by simp; omega) (fun q hq => by have := HO.out.below q hq; omega)
          have hnb : VarAt w3 (w.heap.size + 1) ((badOf (ys.take k)).getD zeroSc) := (HV.out.ext (((hb1).al _).al _)).grown hg3 (fun q hq => by have := HO.out.below q hq; omega)
          have HNB := Lib.hid hnb; have HO3 := Lib.hid hown3
          clear hnb hown3
          rw [HBA.out, Option.or_none] at HBD
          go_roundw
          case rel => exact ⟨k + 1, by omega, by go_num, hb3, by rw [HOL.out]; exact HO3.out, by rw [HBD.out], by rw [HBD.out]; exact HNB.out, by rw [HOK.out]; exact HOA.out⟩
          case measure => simp [intOf]; omega
        · by_cases h4 : x.k = 4
          · have ho4 : ownOf x = x := by unfold ownOf; rw [if_neg (fun h => h13 (Or.inl h)), if_neg (fun h => h13 (Or.inr h)), if_pos h4]
            have hb13 : (x.k == 1 || x.k == 3) = false := by simp [h4]
            rw [hb13, ho4] at hown
            rw [show (x.k == 1 || x.k == 3 || x.k == 4) = true by simp [h4]] at hoa
            rw [if_pos h4] at hba
            rw [ho4] at HOL
            obtain ⟨xk, xn, xd, xt⟩ := x
            have h4' : xk = 4 := h4
            subst h4'
            have HOWN := Lib.hid hown; have HOA := Lib.hid hoa
            rw [hba] at HBD
            obtain ⟨v0, v1, v2, v3, v4⟩ := HV.out.cells
            have hvf := HV.out.free
            clear hown hoa hba ho4 h4 h13 hb13 hk5
            cases hbo : badOf (ys.take k) with
            | some q =>
              have HBO := Lib.hid hbo
              simp only [hbo, Option.isSome_some]
              rw [HBO.out, Option.some_or] at HBD
              rw [HBO.out, Option.getD_some] at HV v0 v1 v2 v3
              clear hbo
              go_wp2_with fail
              refine (HOWN.out _).mono ?_
              rintro e w1 ⟨rfl, hb1⟩
              have hsz1 := hb1.size
              have hlen := HNN.out k
              go_wp2_with (at_builtin; (refine append_vals rfl _ _ rfl (w.heap.size + 2) _ (outsOf (ys.take k)) rfl (((HO.out.ext hb1).alloc _).alloc _) (w1.heap.size + 1) 0 1 [⟨4, xn, xd, xt⟩] rfl (lie_oneAt _ _ (by simp) ⟨4, xn, xd, xt⟩) (by simp only [List.length_singleton]; omega) (by simp; omega) ?_); intro v' w3 hown3 hg3)
              have hb3 : Ext wa w3 := Below.grown (((hb.tr hb1).al _).al _) hg3 (by simp; omega) (fun q hq => by have := HO.out.below q hq; omega)
              have hnb : VarAt w3 (w.heap.size + 1) q := (HV.out.ext (((hb1).al _).al _)).grown hg3 (fun q hq => by have := HO.out.below q hq; omega)
              have HNB := Lib.hid hnb; have HO3 := Lib.hid hown3
              clear hnb hown3
              go_roundw
              case rel => exact ⟨k + 1, by omega, by go_num, hb3, by rw [HOL.out]; exact HO3.out, by rw [HBD.out]; rfl, by rw [HBD.out]; exact HNB.out, by rw [HOK.out]; exact HOA.out⟩
              case measure => simp [intOf]; omega
            | none =>
              have HBO := Lib.hid hbo
              simp only [hbo, Option.isSome_none]
              rw [HBO.out, Option.none_or] at HBD
              rw [HBO.out, Option.getD_none] at HV v0 v1 v2 v3
              clear hbo
              go_wp2_with fail
              refine (HOWN.out _).mono ?_
              rintro e w1 ⟨rfl, hb1⟩
              (obtain ⟨hc1, hf1, hz1⟩ := ext_facts hb1; (try simp at hz1); (have hq1_0 : w.heap.size + 1 < w1.heap.size := by omega); (have hl1_0 : w.heap.size + 1 ≤ w1.heap.size := by omega); (have hr1_0 := fun o => hc1 (w.heap.size + 1) o (by first | omega | (simp; done) | (simp; omega))); (have hs1_0 := fun o => hf1 (w.heap.size + 1) o (by first | omega | (simp; done) | (simp; omega))); (try simp (disch := first | omega | (simp; omega)) only [World.cell?_alloc_past, World.cell?_drew] at hr1_0); (try simp (disch := first | omega | (simp; omega)) only [World.frozen?_alloc_past, World.frozen?_drew] at hs1_0); clear hc1 hf1)
              have hsz1 := hb1.size
              have hlen := HNN.out k
              have hbl : ∀ i, (⟨w.heap.size + 1, i, none⟩ : Addr).block < w.heap.size + 2 := fun i => Nat.lt_succ_self _
              have HO1 := Lib.hid (fun (o1 o2 : Obj) => ((((((((HO.out.ext hb1).setBelow (hbl 0) (.int .i64 4)).setBelow (hbl 1) (.int .i64 xn)).setBelow (hbl 2) (.int .i64 xd)).setBelow (hbl 3) (.string xt)).setBelow (hbl 4) (.slice none 0 0)).alloc o1).alloc o2))
              clear hbl
              go_wp2_with (at_builtin; (refine append_vals rfl _ _ rfl (w.heap.size + 2) _ (outsOf (ys.take k)) rfl (HO1.out _ _) (w1.heap.size + 1) 0 1 [⟨4, xn, xd, xt⟩] rfl (lie_oneAt _ _ (by simp) ⟨4, xn, xd, xt⟩) (by simp only [List.length_singleton]; omega) (by simp; omega) ?_); intro v' w3 hown3 hg3)
              have hb3 : Ext wa w3 := by
                refine Below.grown ?_ hg3 (by simp; omega) (fun q hq => by have := HO.out.below q hq; omega)
                have hb1a := hb.tr hb1
                repeat (first | with_reducible exact Below.refl _ _ | with_reducible assumption | ((with_reducible refine Below.setCell ?_ ?_ _); rotate_left; (simp; try omega)) | (with_reducible refine Ext.tr ?_ (by with_reducible assumption)) | (with_reducible refine Ext.al ?_ _) | (with_reducible refine below_drewN ?_ _) | (with_reducible refine Below.drew ?_))
              have hnb : VarAt w3 (w.heap.size + 1) ⟨4, xn, xd, xt⟩ := ((VarAt.set ⟨4, xn, xd, xt⟩ (HV.out.ext hb1)).ext (((Ext.rf _).al _).al _)).grown hg3 (fun q hq => by have := HO.out.below q hq; omega)
              have HNB := Lib.hid hnb; have HO3 := Lib.hid hown3
              clear hnb hown3
              go_roundw
              case rel => exact ⟨k + 1, by omega, by go_num, hb3, by rw [HOL.out]; exact HO3.out, by rw [HBD.out]; rfl, by rw [HBD.out]; exact HNB.out, by rw [HOK.out]; exact HOA.out⟩
              case measure => simp [intOf]; omega
          · have hou : ownOf x = ⟨6, 0, 0, ⟨#[]⟩⟩ := by unfold ownOf; rw [if_neg (fun h => h13 (Or.inl h)), if_neg (fun h => h13 (Or.inr h)), if_neg h4]
            have hb13 : (x.k == 1 || x.k == 3) = false := by
              simp only [Bool.or_eq_false_iff, beq_eq_false_iff_ne]
              exact ⟨fun h => h13 (Or.inl h), fun h => h13 (Or.inr h)⟩
            rw [hb13, hou] at hown
            rw [hb13, Bool.false_or, beq_eq_false_iff_ne.2 h4] at hoa
            have hall : (ys.all fun y => okArg y.2) = false := List.all_eq_false.2 ⟨_, mem_at Hy, by simp only [hoa]; decide⟩
            obtain ⟨xk, xn, xd, xt⟩ := x
            have HOWN := Lib.hid hown; have HALL := Lib.hid hall
            have hk5' : (xk == 5) = false := beq_eq_false_iff_ne.2 hk5
            clear hown hoa hba hou h4 h13 hb13 hk5 hall
            go_wp2_with fail
            refine (HOWN.out _).mono ?_
            rintro e w1 ⟨rfl, hb1⟩
            (obtain ⟨hc1, hf1, hz1⟩ := ext_facts hb1; (try simp at hz1); (have hq1_0 : w.heap.size < w1.heap.size := by omega); (have hl1_0 : w.heap.size ≤ w1.heap.size := by omega); (have hr1_0 := fun o => hc1 (w.heap.size) o (by first | omega | (simp; done) | (simp; omega))); (have hs1_0 := fun o => hf1 (w.heap.size) o (by first | omega | (simp; done) | (simp; omega))); (try simp (disch := first | omega | (simp; omega)) only [World.cell?_alloc_past, World.cell?_drew] at hr1_0); (try simp (disch := first | omega | (simp; omega)) only [World.frozen?_alloc_past, World.frozen?_drew] at hs1_0); clear hc1 hf1)
            (go_wp2_with fail; refine (doubt_any _).mono ?_; rintro e w2 ⟨rfl, hb2⟩; obtain ⟨hc2, hf2, hz2⟩ := ext_facts hb2; (try simp at hz2); (have hq2_0 : w.heap.size < w2.heap.size := by omega); (have hl2_0 : w.heap.size ≤ w2.heap.size := by omega); (have hr2_0 := fun o => hc2 (w.heap.size) o (by first | omega | (simp; done) | (simp; omega))); (have hs2_0 := fun o => hf2 (w.heap.size) o (by first | omega | (simp; done) | (simp; omega))); (try simp (disch := first | omega | (simp; omega)) only [World.cell?_alloc_past, World.cell?_drew] at hr2_0); (try simp (disch := first | omega | (simp; omega)) only [World.frozen?_alloc_past, World.frozen?_drew] at hs2_0); clear hc2 hf2)
            have hbf : Ext w w2 := ((hbw.tr hb1).al _).tr hb2
            go_wp2
            exact bodyPost_ret (v := .tuple #[.slice none 0 0, unsure, .bool false]) (by simp [results, Tryz.results145, go_sem, *]) rfl (Or.inl ⟨HALL.out, rfl, (by repeat (first | with_reducible exact Below.refl _ _ | with_reducible assumption | ((with_reducible refine Below.setCell ?_ ?_ _); rotate_left; (simp; try omega)) | (with_reducible refine Ext.tr ?_ (by with_reducible assumption)) | (with_reducible refine Ext.al ?_ _) | (with_reducible refine below_drewN ?_ _) | (with_reducible refine Below.drew ?_)))⟩)
    · have hfull : ys.take k = ys := List.take_of_length_le (by omega)
      rw [hfull] at HO HV HA
      have hcs := HV.out.cells
      have HCS := Lib.hid hcs
      obtain ⟨v0, v1, v2, v3, v4⟩ := hcs
      rw [hfull]
      obtain ⟨q, hq⟩ : ∃ q, (badOf ys).getD zeroSc = q := ⟨_, rfl⟩
      obtain ⟨r, hr⟩ : ∃ r, (badOf ys).isSome = r := ⟨_, rfl⟩
      rw [hq] at v0 v1 v2 v3
      rw [hr]
      have HQ := Lib.hid hq; have HR := Lib.hid hr
      obtain ⟨qk, qn, qd, qt⟩ := q
      have hqr : w.heap.size < wr.heap.size := by omega
      have hn1 : ¬ w.heap.size = w.heap.size + 1 := by omega
      clear HCS hfull hq hr
      go_wp2
      go_region
      all_goals
        go_wp2
        refine bodyPost_ret (v := .tuple #[u7, Sc.val ⟨qk, qn, qd, qt⟩, .bool (!r)]) (by simp [results, Tryz.results145, go_sem, *]) rfl (Or.inr ⟨HA.out, u7, by rw [HQ.out, HR.out], ?_, ?_⟩)
        · have hfin := HO.out
          have hbl : ∀ i, (⟨w.heap.size, i, none⟩ : Addr).block < w.heap.size + 2 := fun i => by show w.heap.size < w.heap.size + 2; omega
          have hfin5 := (((((hfin.setBelow (hbl 0) (.int .i64 qk)).setBelow (hbl 1) (.int .i64 qn)).setBelow (hbl 2) (.int .i64 qd)).setBelow (hbl 3) (.string qt)).setBelow (hbl 4) (.slice none 0 0))
          exact Owns.mono (B := w.heap.size + 2) hfin5 (by omega)
        · repeat (first | with_reducible exact Below.refl _ _ | with_reducible assumption | ((with_reducible refine Below.setCell ?_ ?_ _); rotate_left; (simp; try omega)) | (with_reducible refine Ext.tr ?_ (by with_reducible assumption)) | (with_reducible refine Ext.al ?_ _) | (with_reducible refine below_drewN ?_ _) | (with_reducible refine Below.drew ?_))
end Go.Proofs.YtpcfmkongpmmmaaGreatDoor
