/-
  Less; sorted.
-/
import Derived.Test.YtpcfmkongpmmmaaGreatDoorMe
import Derived.Maps.AppendAt
import Derived.BigQuiet
import Derived.Deep.QuietTactic
import Derived.StillTailTactics
namespace Go.Proofs.YtpcfmkongpmmmaaGreatDoor
set_option linter.unusedSimpArgs false
set_option linter.unusedVariables false
open Go Go.RowKit
set_option maxRecDepth 100000

set_option maxHeartbeats 1600000 in
theorem less_ok (a b : Sc) (w : World) (ha : NumK a) (hb : NumK b) : Calls Tryz.prog 152 #[a.val, b.val] w (Gives w (.bool (decide (six a < six b)))) := by
  have a6 := ha.six_le; have b6 := hb.six_le
  obtain ⟨ak, an, ad, at'⟩ := a
  obtain ⟨bk, bn, bd, bt⟩ := b
  have ad1 := den_pos ha.den; have bd1 := den_pos hb.den
  have aq := den_tdiv ha.den; have bq := den_tdiv hb.den
  have aq1 := den_q ha.den; have bq1 := den_q hb.den
  have an1 := ha.lo; have an2 := ha.hi; have bn1 := hb.lo; have bn2 := hb.hi
  simp only at ad1 bd1 aq bq aq1 bq1 an1 an2 bn1 bn2
  unfold six at a6 b6 ⊢
  simp only at a6 b6 ⊢
  generalize 16 / ad = qa at aq aq1 a6 ⊢
  generalize 16 / bd = qb at bq bq1 b6 ⊢
  generalize hA : an * qa = A at a6 ⊢
  generalize hB : bn * qb = B at b6 ⊢
  have hwa : IntKind.i64.wrap (an * IntKind.i64.wrap qa) = A := by rw [wrap_id (n := qa) (by omega) (by omega), hA, wrap_id (by omega) (by omega)]
  have hwb : IntKind.i64.wrap (bn * IntKind.i64.wrap qb) = B := by rw [wrap_id (n := qb) (by omega) (by omega), hB, wrap_id (by omega) (by omega)]
  have HWA := Lib.hid hwa; have HWB := Lib.hid hwb
  clear ha hb hwa hwb hA hB a6 b6 aq1 bq1 an1 an2 bn1 bn2
  have hn1 : ¬ w.heap.size = w.heap.size + 1 := by omega
  have hn2 : ¬ w.heap.size + 1 = w.heap.size := by omega
  have hd1 : ¬ ad = 0 := by omega
  have hd2 : ¬ bd = 0 := by omega
  go_enter Tryz.func152, Tryz.ntmps152
  go_wp2_with fail
  go_region_held3 (fun w' => w'.cell? ⟨w.heap.size, 1, none⟩ = some (.int .i64 an) ∧ w'.cell? ⟨w.heap.size, 2, none⟩ = some (.int .i64 ad) ∧ w'.cell? ⟨w.heap.size + 1, 1, none⟩ = some (.int .i64 bn) ∧ w'.cell? ⟨w.heap.size + 1, 2, none⟩ = some (.int .i64 bd))
    (first | go_keep | (go_split_ands; exact ⟨Ext.get (by assumption) (by assumption), Ext.get (by assumption) (by assumption), Ext.get (by assumption) (by assumption), Ext.get (by assumption) (by assumption)⟩) | (go_split_ands; refine ⟨?_, ?_, ?_, ?_⟩ <;> (simp [go_sem, hn1, hn2, *])))
    (fail)
  go_wp2
  rw [HWA.out, HWB.out]
  exact bodyPost_ret (v := .bool (decide (A < B))) (by simp [results, Tryz.results152, go_sem, *]) rfl ⟨rfl, (by repeat (first | with_reducible exact Below.refl _ _ | with_reducible assumption | ((with_reducible refine Below.setCell ?_ ?_ _); rotate_left; (simp; try omega)) | (with_reducible refine Ext.tr ?_ (by with_reducible assumption)) | (with_reducible refine Ext.al ?_ _) | (with_reducible refine below_drewN ?_ _) | (with_reducible refine Below.drew ?_)))⟩

/-- append of nothing. -/
theorem append_none {ops : Array Oper} {rest : List Oper} {o : Oper} {a : Act} {Q : Exit → Act → World → Prop} (hgd : o.guard = none) (s x : Operand) {w : World}
    (ho : o.op = .call { callee := .builtin .append, args := #[s, x], argTypes := #[31, 31] })
    (base : Option Addr) (n c : Nat) (hs : a.eval s = .slice base n c) (hnc : n ≤ c) (hx : a.eval x = .slice none 0 0)
    (h : wpList Tryz.prog ops Q rest (a.put o.dst (.slice base n c)) w) : wpList Tryz.prog ops Q (o :: rest) a w := by
  obtain ⟨i0, hi, hz0, hz1, hz2⟩ := info_parts infoVal
  refine wpList_plain hgd fun K hK => ?_
  have hr : (Builtin.append_ #[31, 31] o.type #[.slice base n c, .slice none 0 0]).run Tryz.prog w = .ok (.slice base n c) w := by
    cases base with
    | none => simp [Builtin.append_, run_underlying Tryz.underlying31, sizeOf, typeInfo, hi, Builtin.lenOf, Builtin.firstCells, hnc]
    | some ad => simp [Builtin.append_, run_underlying Tryz.underlying31, sizeOf, typeInfo, hi, Builtin.lenOf, Builtin.firstCells, hnc, storeCells]
  unfold Oper.wp execOp
  simp only [ho, resolve, invoke, builtin, Sem.run_bind, Sem.run_pure, Result.andThen_ok, List.map_toArray, List.map_cons, List.map_nil, hs, hx, hr]
  exact hK _ _ h

/-- append of values that lie somewhere, by their count. -/
theorem append_lie {ops : Array Oper} {rest : List Oper} {o : Oper} {a : Act} {Q : Exit → Act → World → Prop} (hgd : o.guard = none) (s x : Operand) {w : World}
    (ho : o.op = .call { callee := .builtin .append, args := #[s, x], argTypes := #[31, 31] })
    (B : Nat) (v : Value) (xs : List Sc) (hs : a.eval s = v) (hown : Owns w B v xs) (b bo m c : Nat) (ys : List Sc) (hx : a.eval x = .slice (some ⟨b, bo, none⟩) m c) (hm : m = ys.length)
    (hy : Lie w b bo ys) (hlen : xs.length + ys.length ≤ 1000000000000) (hB : B ≤ w.heap.size)
    (h : ∀ v' w', Owns w' B v' (xs ++ ys) → w.grownBy w' v.ownBlock → (v'.ownBlock = v.ownBlock ∨ v'.ownBlock = some w.heap.size) → wpList Tryz.prog ops Q rest (a.put o.dst v') w') : wpList Tryz.prog ops Q (o :: rest) a w := by
  subst hm
  exact append_vals_at hgd s x ho B v xs hs hown b bo c ys hx hy hlen hB h

/-- The form of what is owned. -/
theorem Owns.form {w : World} {B : Nat} {v : Value} {xs : List Sc} (h : Owns w B v xs) :
    (xs = [] ∧ v = .slice none 0 0) ∨ ∃ g cap, v = .slice (some ⟨g, 0, none⟩) xs.length cap ∧ xs.length ≤ cap ∧ B ≤ g ∧ g < w.heap.size ∧ Lie w g 0 xs := by
  obtain ⟨hl, ⟨hv, h0⟩ | ⟨g, cap, cur, hv, hg, hh, hn, hm, hc, ht⟩⟩ := h
  · exact Or.inl ⟨List.eq_nil_of_length_eq_zero h0, hv⟩
  · refine Or.inr ⟨g, cap, hv, hn, hg, ?_, fun i x hx => ?_⟩
    · apply Classical.byContradiction; intro hn
      rw [Array.getElem?_eq_none (by omega)] at hh; cases hh
    have hi : i < xs.length := by
      apply Classical.byContradiction
      intro hn
      rw [List.getElem?_eq_none (by omega)] at hx
      cases hx
    have key : ∀ j, j < 5 → w.cell? ⟨g, 0 + i * 5 + j, none⟩ = x.cells[j]? := by
      intro j hj
      rw [cell_of_row hh, Nat.zero_add, ← flat_at Sc.cells_len xs i j x hx hj, ← ht, List.getElem?_take, if_pos (by omega), Array.getElem?_toList]
    exact ⟨key 0 (by omega), key 1 (by omega), key 2 (by omega), key 3 (by omega), key 4 (by omega)⟩

theorem Owns.form1 {w : World} {B : Nat} {v : Value} {xs : List Sc} (h : Owns w B v xs) {n : Nat} (hn : xs.length = n) (h0 : n ≠ 0) :
    ∃ g cap, v = .slice (some ⟨g, 0, none⟩) n cap ∧ n ≤ cap ∧ B ≤ g ∧ g < w.heap.size ∧ Lie w g 0 xs := by
  subst hn
  rcases h.form with ⟨rfl, _⟩ | h
  · exact absurd rfl h0
  · exact h

theorem Lie.take {w : World} {b o : Nat} {xs : List Sc} (h : Lie w b o xs) (n : Nat) : Lie w b o (xs.take n) := fun i x hx => by
  rw [List.getElem?_take] at hx
  split at hx
  · exact h i x hx
  · cases hx

theorem Lie.drop {w : World} {b : Nat} {xs : List Sc} (h : Lie w b 0 xs) (n : Nat) : Lie w b (n * 5) (xs.drop n) := fun i x hx => by
  rw [List.getElem?_drop] at hx
  have := h (n + i) x hx
  rwa [show 0 + (n + i) * 5 = n * 5 + i * 5 by rw [Nat.add_mul]; omega] at this

/-- In order. -/
def Ord (zs : List Sc) : Prop := zs.Pairwise fun a b => six a ≤ six b

theorem Ord.insert {zs : List Sc} (h : Ord zs) (x : Sc) (j : Nat) (h1 : ∀ y ∈ zs.take j, six y ≤ six x) (h2 : ∀ y, zs[j]? = some y → six x < six y) : Ord (zs.take j ++ [x] ++ zs.drop j) := by
  have hz : Ord (zs.take j ++ zs.drop j) := by rw [List.take_append_drop]; exact h
  unfold Ord at hz ⊢
  obtain ⟨q1, q2, q3⟩ := List.pairwise_append.1 hz
  have hdrop : ∀ y ∈ zs.drop j, six x ≤ six y := by
    intro y hy
    cases hd : zs.drop j with
    | nil => rw [hd] at hy; cases hy
    | cons d ds =>
      have hd0 : zs[j]? = some d := by
        have : (zs.drop j)[0]? = some d := by rw [hd]; rfl
        rwa [List.getElem?_drop, Nat.add_zero] at this
      have hxd := h2 d hd0
      rw [hd] at hy q2
      rcases List.mem_cons.1 hy with rfl | hy
      · omega
      · have := (List.pairwise_cons.1 q2).1 y hy
        omega
  rw [List.append_assoc]
  refine List.pairwise_append.2 ⟨q1, List.pairwise_append.2 ⟨List.pairwise_singleton _ _, q2, ?_⟩, ?_⟩
  · intro a ha b hb
    rw [List.mem_singleton.1 ha]; exact hdrop b hb
  · intro a ha b hb
    rcases List.mem_append.1 hb with hb | hb
    · rw [List.mem_singleton.1 hb]
      have := h1 a ha
      omega
    · exact q3 a ha b hb

theorem perm_insert (zs l : List Sc) (x : Sc) (j : Nat) (h : zs.Perm l) : (zs.take j ++ [x] ++ zs.drop j).Perm (l ++ [x]) := by
  have h1 : (zs.take j ++ [x] ++ zs.drop j).Perm (x :: zs) := by
    have h2 : (zs.take j ++ x :: zs.drop j).Perm (x :: (zs.take j ++ zs.drop j)) := List.perm_middle
    rw [List.take_append_drop] at h2
    rw [List.append_assoc]
    exact h2
  exact h1.trans ((List.Perm.cons x h).trans (List.perm_append_singleton x l).symm)

/-- The sorted values so far. -/
def SoSt (l : List Sc) (w wr : World) (v i : Value) : Prop :=
  ∃ (k : Nat) (zs : List Sc), k ≤ l.length ∧ i = .int .i64 k ∧ Ext w wr ∧ Owns wr w.heap.size v zs ∧ zs.Perm (l.take k) ∧ Ord zs

def SortP (l : List Sc) (w : World) (e : Ending) (w' : World) : Prop :=
  ∃ (v : Value) (zs : List Sc), e = .returned v ∧ Owns w' w.heap.size v zs ∧ zs.Perm l ∧ Ord zs ∧ Ext w w'

def SoIn (x : Sc) (zs : List Sc) (wr wq : World) (q : Value) : Prop :=
  ∃ j : Nat, j ≤ zs.length ∧ q = .int .i64 j ∧ Ext wr wq ∧ ∀ y ∈ zs.take j, six y ≤ six x

set_option maxHeartbeats 3200000 in
theorem sorted_ok (l : List Sc) (b c : Nat) (w : World) (hl : l.length ≤ 1000000000) (hx : Lie w b 0 l) (hk : ∀ x ∈ l, NumK x) :
    Calls Tryz.prog 148 #[.slice (some ⟨b, 0, none⟩) l.length c] w (SortP l w) := by
  have HX := Lib.hid hx; clear hx
  have HK := Lib.hid hk; clear hk
  go_enter Tryz.func148, Tryz.ntmps148
  go_wp2
  go_loopw [3, 4] (fun v i wr => SoSt l w wr v i) (fun _ i _ => l.length - (intOf i).toNat)
  case atStart => exact ⟨0, [], Nat.zero_le _, rfl, Ext.rf _, Owns.nil _ _, List.Perm.refl _, List.Pairwise.nil⟩
  case round =>
    obtain ⟨k, zs, hk, rfl, hb, hown, hperm, hord⟩ := hrel
    have HO := Lib.hid hown; have HP := Lib.hid hperm; have HD := Lib.hid hord
    have hzl : zs.length ≤ 1000000000 := by have := hperm.length_eq; rw [List.length_take] at this; omega
    have hsz := hb.size
    by_cases hlt : k < l.length
    · obtain ⟨x, Hx⟩ := elem_at hlt
      obtain ⟨c0, c1, c2, c3, c4⟩ := (HX.out.ext hb).head Hx.out
      have hxk := HK.out x (mem_at Hx)
      have hform := hown.form
      clear hown hperm hord
      rcases hform with ⟨rfl, rfl⟩ | ⟨g, cap, rfl, hcap, hg, hgl, hlie⟩
      · obtain ⟨xk, xn, xd, xt⟩ := x
        go_wp2
        refine wp_loop_rounds 1 ?_
        rw [rounds_succ]
        have HL := Lib.hid (show ∀ w' : World, Lie (w'.alloc (.cells #[.int .i64 xk, .int .i64 xn, .int .i64 xd, .string xt, .slice none 0 0] 28)) w'.heap.size 0 [⟨xk, xn, xd, xt⟩] from fun w' => lie_one w' ⟨xk, xn, xd, xt⟩)
        go_wp2_with fail
        go_quiet (fail)
        go_wp2_with (at_builtin; (refine append_lie rfl _ _ rfl w.heap.size (.slice none 0 0) [] rfl (Owns.nil _ _) wr.heap.size 0 1 1 [⟨xk, xn, xd, xt⟩] rfl rfl (HL.out (wr.drewN nq)) (by simp) (by simp; omega) ?_); intro v' w3 hown3 hg3 hat3; obtain ⟨g3, cap3, rfl, hc3, hg3b, hg3l, _⟩ := hown3.form1 (n := 1) rfl (by decide))
        have hb3 : Ext w w3 := Below.grown (Ext.al (below_drewN hb _) _) hg3 (by simp; omega) (fun q hq => by cases hq)
        exact ⟨⟨k + 1, [⟨xk, xn, xd, xt⟩], by omega, by go_num, hb3, hown3, by rw [take_succ_at Hx]; exact perm_insert [] _ ⟨xk, xn, xd, xt⟩ 0 HP.out, List.pairwise_singleton _ _⟩, by simp [intOf]; omega⟩
      · obtain ⟨xk, xn, xd, xt⟩ := x
        have HL := Lib.hid hlie
        go_wp2
        generalize wr = wo at *
        go_loopw [6] (fun q wq => SoIn ⟨xk, xn, xd, xt⟩ zs wo wq q) (fun q _ => zs.length - (intOf q).toNat)
        case atStart => exact ⟨0, Nat.zero_le _, rfl, Ext.rf _, by simp⟩
        case round =>
          obtain ⟨j, hj, rfl, hbq, hpre⟩ := hrel
          have HPRE := Lib.hid hpre
          have HJT := Lib.hid (show j = (zs.take j).length by rw [List.length_take]; omega)
          have hszq := hbq.size
          have HLX := Lib.hid (show ∀ w' : World, Lie (w'.alloc (.cells #[.int .i64 xk, .int .i64 xn, .int .i64 xd, .string xt, .slice none 0 0] 28)) w'.heap.size 0 [⟨xk, xn, xd, xt⟩] from fun w' => lie_one w' ⟨xk, xn, xd, xt⟩)
          clear hpre
          by_cases hjl : j < zs.length
          · obtain ⟨y, Hy⟩ := elem_at hjl
            obtain ⟨d0, d1, d2, d3, d4⟩ := (HL.out.ext hbq).head Hy.out
            obtain ⟨e0, e1, e2, e3, e4⟩ := ((HX.out.ext hb).ext hbq).head Hx.out
            have hyk := HK.out y (List.mem_of_mem_take (HP.out.mem_iff.1 (mem_at Hy)))
            have HLS := Lib.hid (fun w' => less_ok ⟨xk, xn, xd, xt⟩ y w' hxk hyk)
            by_cases hxy : six ⟨xk, xn, xd, xt⟩ < six y
            · rw [decide_eq_true hxy] at HLS
              have h2 : ∀ z, zs[j]? = some z → six ⟨xk, xn, xd, xt⟩ < six z := fun z hz => by rw [Hy.out] at hz; rw [← Option.some.inj hz]; exact hxy
              have HI := Lib.hid h2
              clear h2
              go_wp2_with fail
              go_still_tail 13, (by kernel_rfl)
              change wpList _ _ _ _ _ wr.drew
              have hbd : Ext wo wr.drew := Below.drew hbq
              generalize wr.drew = wd at hbd ⊢
              go_wp2_with fail
              refine (HLS.out _).mono ?_
              rintro e wq ⟨rfl, hb2⟩
              have hwq : Ext wo wq := hbd.tr hb2
              have HQ := Lib.hid ((HL.out.ext hwq).take j)
              have hszw := hwq.size
              have HWQ := Lib.hid hwq
              have hgl2 : g < wq.heap.size := by omega
              have hwl2 : w.heap.size ≤ wq.heap.size := by omega
              have HL1 := Lib.hid (show (zs.take j).length + (zs.drop j).length ≤ 1000000000 by rw [List.length_take, List.length_drop]; omega)
              clear hwq
              go_wp2_with (at_builtin; first
                | ((refine append_lie rfl _ _ rfl w.heap.size (.slice none 0 0) [] rfl (Owns.nil _ _) g 0 j _ (zs.take j) rfl HJT.out HQ.out (by have := HL1.out; simp only [List.length_nil]; omega) (by omega) ?_); intro v1 w1 hown1 hg1 hat1; have hbw1 : Ext w w1 := Below.grown (hb.tr HWQ.out) hg1 (by omega) (fun q hq => by cases hq); obtain ⟨f0, f1, f2, f3, f4⟩ := (HX.out.ext hbw1).head Hx.out; have HL2 := Lib.hid (Lie.grown (HL.out.ext HWQ.out) hg1 (fun h => by cases h)); have hne1 : ∀ q, v1.ownBlock = some q → q = wq.heap.size := (fun q hq => by rcases hat1 with h | h <;> rw [h] at hq <;> cases hq; rfl); have HNE := Lib.hid hne1; have HOWN1 := Lib.hid hown1; clear hown1 hg1 hat1 hne1)
                | ((refine append_lie rfl _ _ rfl w.heap.size v1 (zs.take j) rfl (Owns.alloc HOWN1.out _) w1.heap.size 0 1 1 [⟨xk, xn, xd, xt⟩] rfl rfl (HLX.out w1) (by have := HL1.out; simp only [List.length_cons, List.length_nil]; omega) (Ext.al hbw1 _).size ?_); intro v2 w2 hown2 hg2 hat2; have hbw2 : Ext w w2 := Below.grown (Ext.al hbw1 _) hg2 (Ext.al hbw1 _).size (fun q hq => by have := HNE.out q hq; omega); have HL3 := Lib.hid (Lie.grown (HL2.out.ext (Ext.al (Ext.rf w1) _)) hg2 (fun h => by have := HNE.out g h; omega)); have hne2 : ∀ q, v2.ownBlock = some q → w.heap.size ≤ q := (fun q hq => by rcases hat2 with h | h <;> rw [h] at hq; (have := HNE.out q hq; omega); (have h9 := (Ext.al hbw1 (.cells #[.int .i64 xk, .int .i64 xn, .int .i64 xd, .string xt, .slice none 0 0] 28)).size; rw [Option.some.inj hq] at h9; exact h9)); have HNE2 := Lib.hid hne2; have HOWN2 := Lib.hid hown2; clear hown2 hg2 hat2 hne2)
                | ((refine append_lie rfl _ _ rfl w.heap.size v2 (zs.take j ++ [⟨xk, xn, xd, xt⟩]) rfl HOWN2.out g (j * 5) _ _ (zs.drop j) rfl (by rw [List.length_drop]) (HL3.out.drop j) (by have := HL1.out; simp only [List.length_append, List.length_cons, List.length_nil]; omega) hbw2.size ?_); intro v3 w3 hown3 hg3 hat3; have hbw3 : Ext w w3 := Below.grown hbw2 hg3 hbw2.size (fun q hq => HNE2.out q hq); have HOWN3 := Lib.hid hown3; clear hown3 hg3 hat3)
                | ((refine append_lie rfl _ _ rfl w.heap.size v2 (zs.take j ++ [⟨xk, xn, xd, xt⟩]) rfl HOWN2.out g 0 _ _ (zs.drop j) rfl (by first | (rw [List.length_drop]; done) | (rw [List.length_drop]; omega)) (by rw [List.drop_of_length_le (by omega)]; intro i x hx; simp at hx) (by have := HL1.out; simp only [List.length_append, List.length_cons, List.length_nil]; omega) hbw2.size ?_); intro v3 w3 hown3 hg3 hat3; have hbw3 : Ext w w3 := Below.grown hbw2 hg3 hbw2.size (fun q hq => HNE2.out q hq); have HOWN3 := Lib.hid hown3; clear hown3 hg3 hat3))
              exact ⟨⟨k + 1, _, by omega, by go_num, hbw3, HOWN3.out, by rw [take_succ_at Hx]; exact perm_insert zs _ ⟨xk, xn, xd, xt⟩ j HP.out, HD.out.insert ⟨xk, xn, xd, xt⟩ j HPRE.out HI.out⟩, by simp [intOf]; omega⟩
            · rw [decide_eq_false hxy] at HLS
              go_wp2_with fail
              go_still_tail 13, (by kernel_rfl)
              change wpList _ _ _ _ _ wr.drew
              have hbd : Ext wo wr.drew := Below.drew hbq
              generalize wr.drew = wd at hbd ⊢
              go_wp2_with fail
              refine (HLS.out _).mono ?_
              rintro e wq ⟨rfl, hb2⟩
              have hwq : Ext wo wq := hbd.tr hb2
              go_wp2
              have hcl : ∀ z ∈ zs.take (j + 1), six z ≤ six ⟨xk, xn, xd, xt⟩ := fun z hz => by
                rw [take_succ_at Hy] at hz
                rcases List.mem_append.1 hz with hz | hz
                · exact HPRE.out z hz
                · rw [List.mem_singleton.1 hz]; omega
              exact ⟨⟨j + 1, by omega, by go_num, hwq, hcl⟩, by simp [intOf]; omega⟩
          · have HI := Lib.hid (show ∀ z, zs[j]? = some z → six ⟨xk, xn, xd, xt⟩ < six z from fun z hz => by rw [List.getElem?_eq_none (by omega)] at hz; cases hz)
            by_cases hcj : cap = j
            · go_wp2_with fail
              go_quiet (fail)
              have hwq0 : Ext wo (wr.drewN nq) := below_drewN hbq nq
              generalize wr.drewN nq = wq at hwq0 ⊢
              have hwq := hwq0
              clear hwq0
              have HQ := Lib.hid ((HL.out.ext hwq).take j)
              have hszw := hwq.size
              have HWQ := Lib.hid hwq
              have hgl2 : g < wq.heap.size := by omega
              have hwl2 : w.heap.size ≤ wq.heap.size := by omega
              have HL1 := Lib.hid (show (zs.take j).length + (zs.drop j).length ≤ 1000000000 by rw [List.length_take, List.length_drop]; omega)
              clear hwq
              go_wp2_with (at_builtin; first
                | ((refine append_lie rfl _ _ rfl w.heap.size (.slice none 0 0) [] rfl (Owns.nil _ _) g 0 j _ (zs.take j) rfl HJT.out HQ.out (by have := HL1.out; simp only [List.length_nil]; omega) (by omega) ?_); intro v1 w1 hown1 hg1 hat1; have hbw1 : Ext w w1 := Below.grown (hb.tr HWQ.out) hg1 (by omega) (fun q hq => by cases hq); obtain ⟨f0, f1, f2, f3, f4⟩ := (HX.out.ext hbw1).head Hx.out; have HL2 := Lib.hid (Lie.grown (HL.out.ext HWQ.out) hg1 (fun h => by cases h)); have hne1 : ∀ q, v1.ownBlock = some q → q = wq.heap.size := (fun q hq => by rcases hat1 with h | h <;> rw [h] at hq <;> cases hq; rfl); have HNE := Lib.hid hne1; have HOWN1 := Lib.hid hown1; clear hown1 hg1 hat1 hne1)
                | ((refine append_lie rfl _ _ rfl w.heap.size v1 (zs.take j) rfl (Owns.alloc HOWN1.out _) w1.heap.size 0 1 1 [⟨xk, xn, xd, xt⟩] rfl rfl (HLX.out w1) (by have := HL1.out; simp only [List.length_cons, List.length_nil]; omega) (Ext.al hbw1 _).size ?_); intro v2 w2 hown2 hg2 hat2; have hbw2 : Ext w w2 := Below.grown (Ext.al hbw1 _) hg2 (Ext.al hbw1 _).size (fun q hq => by have := HNE.out q hq; omega); have HL3 := Lib.hid (Lie.grown (HL2.out.ext (Ext.al (Ext.rf w1) _)) hg2 (fun h => by have := HNE.out g h; omega)); have hne2 : ∀ q, v2.ownBlock = some q → w.heap.size ≤ q := (fun q hq => by rcases hat2 with h | h <;> rw [h] at hq; (have := HNE.out q hq; omega); (have h9 := (Ext.al hbw1 (.cells #[.int .i64 xk, .int .i64 xn, .int .i64 xd, .string xt, .slice none 0 0] 28)).size; rw [Option.some.inj hq] at h9; exact h9)); have HNE2 := Lib.hid hne2; have HOWN2 := Lib.hid hown2; clear hown2 hg2 hat2 hne2)
                | ((refine append_lie rfl _ _ rfl w.heap.size v2 (zs.take j ++ [⟨xk, xn, xd, xt⟩]) rfl HOWN2.out g (j * 5) _ _ (zs.drop j) rfl (by rw [List.length_drop]) (HL3.out.drop j) (by have := HL1.out; simp only [List.length_append, List.length_cons, List.length_nil]; omega) hbw2.size ?_); intro v3 w3 hown3 hg3 hat3; have hbw3 : Ext w w3 := Below.grown hbw2 hg3 hbw2.size (fun q hq => HNE2.out q hq); have HOWN3 := Lib.hid hown3; clear hown3 hg3 hat3)
                | ((refine append_lie rfl _ _ rfl w.heap.size v2 (zs.take j ++ [⟨xk, xn, xd, xt⟩]) rfl HOWN2.out g 0 _ _ (zs.drop j) rfl (by first | (rw [List.length_drop]; done) | (rw [List.length_drop]; omega)) (by rw [List.drop_of_length_le (by omega)]; intro i x hx; simp at hx) (by have := HL1.out; simp only [List.length_append, List.length_cons, List.length_nil]; omega) hbw2.size ?_); intro v3 w3 hown3 hg3 hat3; have hbw3 : Ext w w3 := Below.grown hbw2 hg3 hbw2.size (fun q hq => HNE2.out q hq); have HOWN3 := Lib.hid hown3; clear hown3 hg3 hat3))
              exact ⟨⟨k + 1, _, by omega, by go_num, hbw3, HOWN3.out, by rw [take_succ_at Hx]; exact perm_insert zs _ ⟨xk, xn, xd, xt⟩ j HP.out, HD.out.insert ⟨xk, xn, xd, xt⟩ j HPRE.out HI.out⟩, by simp [intOf]; omega⟩
            · go_wp2_with fail
              go_quiet (fail)
              have hwq0 : Ext wo (wr.drewN nq) := below_drewN hbq nq
              generalize wr.drewN nq = wq at hwq0 ⊢
              have hwq := hwq0
              clear hwq0
              have HQ := Lib.hid ((HL.out.ext hwq).take j)
              have hszw := hwq.size
              have HWQ := Lib.hid hwq
              have hgl2 : g < wq.heap.size := by omega
              have hwl2 : w.heap.size ≤ wq.heap.size := by omega
              have HL1 := Lib.hid (show (zs.take j).length + (zs.drop j).length ≤ 1000000000 by rw [List.length_take, List.length_drop]; omega)
              clear hwq
              go_wp2_with (at_builtin; first
                | ((refine append_lie rfl _ _ rfl w.heap.size (.slice none 0 0) [] rfl (Owns.nil _ _) g 0 j _ (zs.take j) rfl HJT.out HQ.out (by have := HL1.out; simp only [List.length_nil]; omega) (by omega) ?_); intro v1 w1 hown1 hg1 hat1; have hbw1 : Ext w w1 := Below.grown (hb.tr HWQ.out) hg1 (by omega) (fun q hq => by cases hq); obtain ⟨f0, f1, f2, f3, f4⟩ := (HX.out.ext hbw1).head Hx.out; have HL2 := Lib.hid (Lie.grown (HL.out.ext HWQ.out) hg1 (fun h => by cases h)); have hne1 : ∀ q, v1.ownBlock = some q → q = wq.heap.size := (fun q hq => by rcases hat1 with h | h <;> rw [h] at hq <;> cases hq; rfl); have HNE := Lib.hid hne1; have HOWN1 := Lib.hid hown1; clear hown1 hg1 hat1 hne1)
                | ((refine append_lie rfl _ _ rfl w.heap.size v1 (zs.take j) rfl (Owns.alloc HOWN1.out _) w1.heap.size 0 1 1 [⟨xk, xn, xd, xt⟩] rfl rfl (HLX.out w1) (by have := HL1.out; simp only [List.length_cons, List.length_nil]; omega) (Ext.al hbw1 _).size ?_); intro v2 w2 hown2 hg2 hat2; have hbw2 : Ext w w2 := Below.grown (Ext.al hbw1 _) hg2 (Ext.al hbw1 _).size (fun q hq => by have := HNE.out q hq; omega); have HL3 := Lib.hid (Lie.grown (HL2.out.ext (Ext.al (Ext.rf w1) _)) hg2 (fun h => by have := HNE.out g h; omega)); have hne2 : ∀ q, v2.ownBlock = some q → w.heap.size ≤ q := (fun q hq => by rcases hat2 with h | h <;> rw [h] at hq; (have := HNE.out q hq; omega); (have h9 := (Ext.al hbw1 (.cells #[.int .i64 xk, .int .i64 xn, .int .i64 xd, .string xt, .slice none 0 0] 28)).size; rw [Option.some.inj hq] at h9; exact h9)); have HNE2 := Lib.hid hne2; have HOWN2 := Lib.hid hown2; clear hown2 hg2 hat2 hne2)
                | ((refine append_lie rfl _ _ rfl w.heap.size v2 (zs.take j ++ [⟨xk, xn, xd, xt⟩]) rfl HOWN2.out g (j * 5) _ _ (zs.drop j) rfl (by rw [List.length_drop]) (HL3.out.drop j) (by have := HL1.out; simp only [List.length_append, List.length_cons, List.length_nil]; omega) hbw2.size ?_); intro v3 w3 hown3 hg3 hat3; have hbw3 : Ext w w3 := Below.grown hbw2 hg3 hbw2.size (fun q hq => HNE2.out q hq); have HOWN3 := Lib.hid hown3; clear hown3 hg3 hat3)
                | ((refine append_lie rfl _ _ rfl w.heap.size v2 (zs.take j ++ [⟨xk, xn, xd, xt⟩]) rfl HOWN2.out g 0 _ _ (zs.drop j) rfl (by first | (rw [List.length_drop]; done) | (rw [List.length_drop]; omega)) (by rw [List.drop_of_length_le (by omega)]; intro i x hx; simp at hx) (by have := HL1.out; simp only [List.length_append, List.length_cons, List.length_nil]; omega) hbw2.size ?_); intro v3 w3 hown3 hg3 hat3; have hbw3 : Ext w w3 := Below.grown hbw2 hg3 hbw2.size (fun q hq => HNE2.out q hq); have HOWN3 := Lib.hid hown3; clear hown3 hg3 hat3))
              exact ⟨⟨k + 1, _, by omega, by go_num, hbw3, HOWN3.out, by rw [take_succ_at Hx]; exact perm_insert zs _ ⟨xk, xn, xd, xt⟩ j HP.out, HD.out.insert ⟨xk, xn, xd, xt⟩ j HPRE.out HI.out⟩, by simp [intOf]; omega⟩
    · have hfull : l.take k = l := List.take_of_length_le (by omega)
      rw [hfull] at HP
      clear hown hperm hord
      go_wp2
      exact bodyPost_ret (v := u3) (by simp [results, Tryz.results148, go_sem, *]) rfl ⟨u3, zs, rfl, HO.out, HP.out, HD.out, hb⟩
end Go.Proofs.YtpcfmkongpmmmaaGreatDoor
