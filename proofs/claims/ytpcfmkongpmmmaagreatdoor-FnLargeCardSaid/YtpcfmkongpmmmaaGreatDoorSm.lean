/-
  The reference's sums: Add, own, kinds, sum.
-/
import Derived.Test.YtpcfmkongpmmmaaGreatDoorVt
import Derived.Test.YtpcfmkongpmmmaaGreatDoorNum

namespace Go.Proofs.YtpcfmkongpmmmaaGreatDoor
set_option linter.unusedSimpArgs false
set_option linter.unusedVariables false
open Go Go.RowKit
set_option maxRecDepth 100000

/-- A number's sixteenths. -/
def six (x : Sc) : Int := x.n * (16 / x.d)

theorem den_tdiv {d : Int} (h : Den d) : Int.tdiv 16 d = 16 / d := by
  rcases h with rfl | rfl | rfl | rfl | rfl <;> decide

theorem den_q {d : Int} (h : Den d) : 1 ≤ 16 / d ∧ 16 / d ≤ 16 := by
  rcases h with rfl | rfl | rfl | rfl | rfl <;> decide

theorem den_pos {d : Int} (h : Den d) : 1 ≤ d ∧ d ≤ 16 := by
  rcases h with rfl | rfl | rfl | rfl | rfl <;> decide

theorem NumK.six_le {x : Sc} (h : NumK x) : -1599999999984 ≤ six x ∧ six x ≤ 1599999999984 := by
  have h1 := h.lo; have h2 := h.hi
  unfold six
  rcases h.den with e | e | e | e | e <;> rw [e] <;> omega

theorem wrap_id {n : Int} (h1 : -9223372036854775808 ≤ n) (h2 : n ≤ 9223372036854775807) : IntKind.i64.wrap n = n := by
  simp only [IntKind.wrap, IntKind.bits, IntKind.signed]
  simp
  omega

set_option maxHeartbeats 1600000 in
theorem add_num (a b : Sc) (w : World) (ha : NumK a) (hb : NumK b) (hat : a.t = ⟨#[]⟩) (hbt : b.t = ⟨#[]⟩) : Calls Tryz.prog 146 #[a.val, b.val] w fun e w' => ∃ x : Sc, e = .returned x.val ∧ ArgOk (six a + six b) x ∧ Ext w w' := by
  have a6 := ha.six_le; have b6 := hb.six_le
  obtain ⟨ak, an, ad, at'⟩ := a
  obtain ⟨bk, bn, bd, bt⟩ := b
  have hak : ak = 1 := ha.k
  have hbk : bk = 1 := hb.k
  simp only at hat hbt
  subst hak hbk hat hbt
  have ad1 := den_pos ha.den; have bd1 := den_pos hb.den
  have aq := den_tdiv ha.den; have bq := den_tdiv hb.den
  have aq1 := den_q ha.den; have bq1 := den_q hb.den
  have an1 := ha.lo; have an2 := ha.hi; have bn1 := hb.lo; have bn2 := hb.hi
  simp only at ad1 bd1 aq bq aq1 bq1 an1 an2 bn1 bn2
  unfold six at a6 b6
  have hF := fun w' => frac_16 (six ⟨1, an, ad, ⟨#[]⟩⟩ + six ⟨1, bn, bd, ⟨#[]⟩⟩) w' (by unfold six; omega) (by unfold six; omega)
  unfold six at hF ⊢
  simp only at hF a6 b6 ⊢
  generalize 16 / ad = qa at aq aq1 a6 hF ⊢
  generalize 16 / bd = qb at bq bq1 b6 hF ⊢
  generalize hA : an * qa = A at hF a6 ⊢
  generalize hB : bn * qb = B at hF b6 ⊢
  have hw : IntKind.i64.wrap (IntKind.i64.wrap (an * IntKind.i64.wrap qa) + IntKind.i64.wrap (bn * IntKind.i64.wrap qb)) = A + B := by
    rw [wrap_id (n := qa) (by omega) (by omega), wrap_id (n := qb) (by omega) (by omega), hA, hB, wrap_id (n := A) (by omega) (by omega), wrap_id (n := B) (by omega) (by omega), wrap_id (by omega) (by omega)]
  have hF2 : ∀ w', Calls Tryz.prog 28 #[.int .i64 (IntKind.i64.wrap (IntKind.i64.wrap (an * IntKind.i64.wrap qa) + IntKind.i64.wrap (bn * IntKind.i64.wrap qb))), .int .i64 16] w' (NumOr w' (A + B)) := by
    rw [hw]; exact hF
  have HF := Lib.hid hF2; clear hF hF2 ha hb hw hA hB a6 b6 aq1 bq1 an1 an2 bn1 bn2
  have hd1 : ¬ ad = 0 := by omega
  have hd2 : ¬ bd = 0 := by omega
  have hn1 : ¬ w.heap.size = w.heap.size + 1 + 1 := by omega
  have hn2 : ¬ w.heap.size + 1 + 1 = w.heap.size := by omega
  go_enter Tryz.func146, Tryz.ntmps146
  go_wp2_with fail
  go_region_held3 (fun w' => w'.cell? ⟨w.heap.size, 1, none⟩ = some (.int .i64 an) ∧ w'.cell? ⟨w.heap.size, 2, none⟩ = some (.int .i64 ad) ∧ w'.cell? ⟨w.heap.size + 1, 1, none⟩ = some (.int .i64 bn) ∧ w'.cell? ⟨w.heap.size + 1, 2, none⟩ = some (.int .i64 bd))
    (first | go_keep | (go_split_ands; exact ⟨Ext.get (by assumption) (by assumption), Ext.get (by assumption) (by assumption), Ext.get (by assumption) (by assumption), Ext.get (by assumption) (by assumption)⟩) | (go_split_ands; refine ⟨?_, ?_, ?_, ?_⟩ <;> (simp [go_sem, hn1, hn2, *])))
    (first | (go_at_call 28; refine (HF.out _).mono ?_; rintro e w1 hx0; obtain ⟨x, rfl, hx, hb1⟩ := NumOr.sc hx0; clear hx0; have HX := Lib.hid hx; clear hx; (obtain ⟨hc1, hf1, hz1⟩ := ext_facts hb1; (try simp at hz1); (have hq1_0 : w.heap.size < w1.heap.size := by omega); (have hl1_0 : w.heap.size ≤ w1.heap.size := by omega); (have hr1_0 := fun o => hc1 (w.heap.size) o (by first | omega | (simp; done) | (simp; omega))); (have hs1_0 := fun o => hf1 (w.heap.size) o (by first | omega | (simp; done) | (simp; omega))); (try simp (disch := first | omega | (simp; omega)) only [World.cell?_alloc_past, World.cell?_drew] at hr1_0); (try simp (disch := first | omega | (simp; omega)) only [World.frozen?_alloc_past, World.frozen?_drew] at hs1_0); (have hq1_1 : w.heap.size + 1 < w1.heap.size := by omega); (have hl1_1 : w.heap.size + 1 ≤ w1.heap.size := by omega); (have hr1_1 := fun o => hc1 (w.heap.size + 1) o (by first | omega | (simp; done) | (simp; omega))); (have hs1_1 := fun o => hf1 (w.heap.size + 1) o (by first | omega | (simp; done) | (simp; omega))); (try simp (disch := first | omega | (simp; omega)) only [World.cell?_alloc_past, World.cell?_drew] at hr1_1); (try simp (disch := first | omega | (simp; omega)) only [World.frozen?_alloc_past, World.frozen?_drew] at hs1_1); (have hq1_2 : w.heap.size + 1 + 1 < w1.heap.size := by omega); (have hl1_2 : w.heap.size + 1 + 1 ≤ w1.heap.size := by omega); (have hr1_2 := fun o => hc1 (w.heap.size + 1 + 1) o (by first | omega | (simp; done) | (simp; omega))); (have hs1_2 := fun o => hf1 (w.heap.size + 1 + 1) o (by first | omega | (simp; done) | (simp; omega))); (try simp (disch := first | omega | (simp; omega)) only [World.cell?_alloc_past, World.cell?_drew] at hr1_2); (try simp (disch := first | omega | (simp; omega)) only [World.frozen?_alloc_past, World.frozen?_drew] at hs1_2); clear hc1 hf1)))
  go_wp2
  exact bodyPost_ret (v := x.val) (by simp [results, Tryz.results146, go_sem, *]) rfl ⟨x, rfl, HX.out, (by repeat (first | with_reducible exact Below.refl _ _ | with_reducible assumption | ((with_reducible refine Below.setCell ?_ ?_ _); rotate_left; (simp; try omega)) | (with_reducible refine Ext.tr ?_ (by with_reducible assumption)) | (with_reducible refine Ext.al ?_ _) | (with_reducible refine below_drewN ?_ _) | (with_reducible refine Below.drew ?_)))⟩

set_option maxHeartbeats 1600000 in
theorem add_unsure (b : Sc) (w : World) : Calls Tryz.prog 146 #[unsure, b.val] w (Gives w unsure) := by
  obtain ⟨bk, bn, bd, bt⟩ := b
  go_enter Tryz.func146, Tryz.ntmps146
  (go_wp2_with fail; refine (doubt_any _).mono ?_; rintro e w1 ⟨rfl, hb1⟩; obtain ⟨hc1, hf1, hz1⟩ := ext_facts hb1; (try simp at hz1); (have hq1_0 : w.heap.size < w1.heap.size := by omega); (have hl1_0 : w.heap.size ≤ w1.heap.size := by omega); (have hr1_0 := fun o => hc1 (w.heap.size) o (by first | omega | (simp; done) | (simp; omega))); (have hs1_0 := fun o => hf1 (w.heap.size) o (by first | omega | (simp; done) | (simp; omega))); (try simp (disch := first | omega | (simp; omega)) only [World.cell?_alloc_past, World.cell?_drew] at hr1_0); (try simp (disch := first | omega | (simp; omega)) only [World.frozen?_alloc_past, World.frozen?_drew] at hs1_0); (have hq1_1 : w.heap.size + 1 < w1.heap.size := by omega); (have hl1_1 : w.heap.size + 1 ≤ w1.heap.size := by omega); (have hr1_1 := fun o => hc1 (w.heap.size + 1) o (by first | omega | (simp; done) | (simp; omega))); (have hs1_1 := fun o => hf1 (w.heap.size + 1) o (by first | omega | (simp; done) | (simp; omega))); (try simp (disch := first | omega | (simp; omega)) only [World.cell?_alloc_past, World.cell?_drew] at hr1_1); (try simp (disch := first | omega | (simp; omega)) only [World.frozen?_alloc_past, World.frozen?_drew] at hs1_1); (have hq1_2 : w.heap.size + 1 + 1 < w1.heap.size := by omega); (have hl1_2 : w.heap.size + 1 + 1 ≤ w1.heap.size := by omega); (have hr1_2 := fun o => hc1 (w.heap.size + 1 + 1) o (by first | omega | (simp; done) | (simp; omega))); (have hs1_2 := fun o => hf1 (w.heap.size + 1 + 1) o (by first | omega | (simp; done) | (simp; omega))); (try simp (disch := first | omega | (simp; omega)) only [World.cell?_alloc_past, World.cell?_drew] at hr1_2); (try simp (disch := first | omega | (simp; omega)) only [World.frozen?_alloc_past, World.frozen?_drew] at hs1_2); clear hc1 hf1)
  go_wp2
  exact bodyPost_ret (v := unsure) (by simp [results, Tryz.results146, go_sem, *]) rfl ⟨rfl, (by repeat (first | with_reducible exact Below.refl _ _ | with_reducible assumption | ((with_reducible refine Below.setCell ?_ ?_ _); rotate_left; (simp; try omega)) | (with_reducible refine Ext.tr ?_ (by with_reducible assumption)) | (with_reducible refine Ext.al ?_ _) | (with_reducible refine below_drewN ?_ _) | (with_reducible refine Below.drew ?_)))⟩

theorem add_ok (Z : Int) (a b : Sc) (w : World) (ha : ArgOk Z a) (hb : NumK b) (hbt : b.t = ⟨#[]⟩) : Calls Tryz.prog 146 #[a.val, b.val] w fun e w' => ∃ x : Sc, e = .returned x.val ∧ ArgOk (Z + six b) x ∧ Ext w w' := by
  rcases ha with ⟨h1, h2, h3⟩ | rfl
  · have h := add_num a b w h1 hb h2 hbt
    rwa [show six a = Z from h3] at h
  · exact (add_unsure b w).mono fun e w' ⟨h1, h2⟩ => ⟨⟨6, 0, 0, ⟨#[]⟩⟩, h1, Or.inr rfl, h2⟩

theorem numK_zero : NumK ⟨1, 0, 1, ⟨#[]⟩⟩ := ⟨rfl, Or.inl rfl, by decide, by decide⟩

/-- The sixteenths of all. -/
def sumZ (xs : List Sc) : Int := (xs.map six).foldl (· + ·) 0

theorem foldl_add (l : List Int) (a : Int) : l.foldl (· + ·) a = a + l.foldl (· + ·) 0 := by
  induction l generalizing a with
  | nil => simp
  | cons x l ih => rw [List.foldl_cons, List.foldl_cons, ih (a + x), ih (0 + x)]; omega

theorem sumZ_append (xs ys : List Sc) : sumZ (xs ++ ys) = sumZ xs + sumZ ys := by
  unfold sumZ; rw [List.map_append, List.foldl_append, foldl_add]

theorem sumZ_one (x : Sc) : sumZ [x] = six x := by simp [sumZ]

theorem sumZ_take {xs : List Sc} {k : Nat} {x : Sc} (h : Hid (xs[k]? = some x)) : sumZ (xs.take (k + 1)) = sumZ (xs.take k) + six x := by
  rw [take_succ_at h, sumZ_append, sumZ_one]

/-- A variable of the call's own holds a value. -/
def VarAt (w : World) (V : Nat) (x : Sc) : Prop := w.heap[V]? = some (.cells #[.int .i64 x.k, .int .i64 x.n, .int .i64 x.d, .string x.t, .slice none 0 0] 28 (0, 0))

theorem VarAt.cells {w : World} {V : Nat} {x : Sc} (h : VarAt w V x) : At5 w V 0 x := by
  unfold VarAt at h
  refine ⟨?_, ?_, ?_, ?_, ?_⟩ <;> rw [cell_of_block h] <;> rfl

theorem VarAt.free {w : World} {V : Nat} {x : Sc} (h : VarAt w V x) (i : Nat) : w.frozen? ⟨V, i, none⟩ = false := free_of_block h i

theorem VarAt.ext {w w' : World} {V : Nat} {x : Sc} (h : VarAt w V x) (hb : Ext w w') : VarAt w' V x := by
  unfold VarAt at h ⊢
  rw [hb.block V (block_lt_heap h)]; exact h

theorem VarAt.drew {w : World} {V : Nat} {x : Sc} (h : VarAt w V x) : VarAt w.drew V x := h

theorem VarAt.new (w : World) (x : Sc) : VarAt (w.alloc (.cells #[.int .i64 x.k, .int .i64 x.n, .int .i64 x.d, .string x.t, .slice none 0 0] 28)) w.heap.size x := heap_alloc_new _ _ _ rfl

theorem VarAt.set {w : World} {V : Nat} {x : Sc} (y : Sc) (h : VarAt w V x) :
    VarAt (((((w.setCell ⟨V, 0, none⟩ (.int .i64 y.k)).setCell ⟨V, 1, none⟩ (.int .i64 y.n)).setCell ⟨V, 2, none⟩ (.int .i64 y.d)).setCell ⟨V, 3, none⟩ (.string y.t)).setCell ⟨V, 4, none⟩ (.slice none 0 0)) V y := by
  unfold VarAt at h ⊢
  rw [heap_setCell_at (heap_setCell_at (heap_setCell_at (heap_setCell_at (heap_setCell_at h))))]
  rfl

set_option maxHeartbeats 3200000 in
/-- sum: the sum of numbers, or nothing is said of it. -/
theorem sum_ok (xs : List Sc) (b o c : Nat) (w : World) (hl : xs.length ≤ 1000000000) (hx : Lie w b o xs) (hk : ∀ x ∈ xs, NumK x ∧ x.t = ⟨#[]⟩) :
    Calls Tryz.prog 50 #[.slice (some ⟨b, o, none⟩) xs.length c] w fun e w' => ∃ x : Sc, e = .returned x.val ∧ ArgOk (sumZ xs) x ∧ Ext w w' := by
  have HX := Lib.hid hx; clear hx
  have HK := Lib.hid hk; clear hk
  go_enter Tryz.func50, Tryz.ntmps50
  (go_wp2_with fail; refine (int_ok 0 _ (by omega) (by omega)).mono ?_; rintro e w1 ⟨rfl, hb1⟩; obtain ⟨hc1, hf1, hz1⟩ := ext_facts hb1; (try simp at hz1); (have hq1_0 : w.heap.size < w1.heap.size := by omega); (have hl1_0 : w.heap.size ≤ w1.heap.size := by omega); (have hr1_0 := fun o => hc1 (w.heap.size) o (by first | omega | (simp; done) | (simp; omega))); (have hs1_0 := fun o => hf1 (w.heap.size) o (by first | omega | (simp; done) | (simp; omega))); (try simp (disch := first | omega | (simp; omega)) only [World.cell?_alloc_past, World.cell?_drew] at hr1_0); (try simp (disch := first | omega | (simp; omega)) only [World.frozen?_alloc_past, World.frozen?_drew] at hs1_0); clear hc1 hf1)
  have hw1 : Ext w w1 := ((Ext.rf w).al _).tr hb1
  go_wp2
  go_loopw [4] (fun i wr => ∃ (k : Nat) (x : Sc), k ≤ xs.length ∧ i = .int .i64 k ∧ Ext w1 wr ∧ VarAt wr w1.heap.size x ∧ ArgOk (sumZ (xs.take k)) x) (fun i _ => xs.length - (intOf i).toNat)
  case atStart =>
    refine ⟨0, ⟨1, 0, 1, ⟨#[]⟩⟩, Nat.zero_le _, rfl, (by repeat (first | with_reducible exact Below.refl _ _ | with_reducible assumption | ((with_reducible refine Below.setCell ?_ ?_ _); rotate_left; (simp; try omega)) | (with_reducible refine Ext.tr ?_ (by with_reducible assumption)) | (with_reducible refine Ext.al ?_ _) | (with_reducible refine below_drewN ?_ _) | (with_reducible refine Below.drew ?_))), VarAt.new w1 ⟨1, 0, 1, ⟨#[]⟩⟩, Or.inl ⟨numK_zero, rfl, rfl⟩⟩
  case round =>
    obtain ⟨k, x, hk, rfl, hb, hvar, hx⟩ := hrel
    by_cases hlt : k < xs.length
    · obtain ⟨y, Hy⟩ := elem_at hlt
      obtain ⟨c0, c1, c2, c3, c4⟩ := (HX.out.ext (hw1.tr hb)) k y Hy.out
      obtain ⟨v0, v1, v2, v3, v4⟩ := hvar.cells
      have hfr := hvar.free
      have hvl := block_lt_heap hvar
      have hyk := HK.out y (mem_at Hy)
      have HA := Lib.hid (fun w' => add_ok (sumZ (xs.take k)) x y w' hx hyk.1 hyk.2)
      have HV := Lib.hid hvar
      clear hx hyk hvar
      obtain ⟨yk, yn, yd, yt⟩ := y
      obtain ⟨xk, xn, xd, xt⟩ := x
      go_wp2_with fail
      go_region_with (first | (go_at_call 146; refine (HA.out _).mono ?_; rintro e w2 ⟨x2, rfl, hx2, hb2⟩; have HX2 := Lib.hid hx2; clear hx2; (obtain ⟨hc2, hf2, hz2⟩ := ext_facts hb2; (try simp at hz2); (have hq2_0 : w1.heap.size < w2.heap.size := by omega); (have hl2_0 : w1.heap.size ≤ w2.heap.size := by omega); (have hr2_0 := fun o => hc2 (w1.heap.size) o (by first | omega | (simp; done) | (simp; omega))); (have hs2_0 := fun o => hf2 (w1.heap.size) o (by first | omega | (simp; done) | (simp; omega))); (try simp (disch := first | omega | (simp; omega)) only [World.cell?_alloc_past, World.cell?_drew] at hr2_0); (try simp (disch := first | omega | (simp; omega)) only [World.frozen?_alloc_past, World.frozen?_drew] at hs2_0); clear hc2 hf2)))
      all_goals
        have hvar2 := (VarAt.set x2 (HV.out.drew.ext hb2))
        have HV2 := Lib.hid hvar2; clear hvar2
        go_wp2
        go_roundw
        case rel => exact ⟨k + 1, x2, by omega, by go_num, (by repeat (first | with_reducible exact Below.refl _ _ | with_reducible assumption | ((with_reducible refine Below.setCell ?_ ?_ _); rotate_left; (simp; try omega)) | (with_reducible refine Ext.tr ?_ (by with_reducible assumption)) | (with_reducible refine Ext.al ?_ _) | (with_reducible refine below_drewN ?_ _) | (with_reducible refine Below.drew ?_))), HV2.out, by rw [sumZ_take Hy]; exact HX2.out⟩
        case measure => simp [intOf]; omega
    · have hxf := hx
      rw [List.take_of_length_le (by omega)] at hxf
      have HXF := Lib.hid hxf
      obtain ⟨v0, v1, v2, v3, v4⟩ := hvar.cells
      have hvl := block_lt_heap hvar
      obtain ⟨xk, xn, xd, xt⟩ := x
      have hr0 := fun o => hb.cell (p := ⟨w.heap.size, o, none⟩) hq1_0
      have hs0 := fun o => hb.frozen (p := ⟨w.heap.size, o, none⟩) hq1_0
      have hwr : Ext w wr := hw1.tr hb
      have hqr : w.heap.size < wr.heap.size := by have := hb.size; omega
      clear hx hxf hvar
      go_wp2
      exact bodyPost_ret (v := Sc.val ⟨xk, xn, xd, xt⟩) (by simp [results, Tryz.results50, go_sem, *]) rfl ⟨⟨xk, xn, xd, xt⟩, rfl, HXF.out, (by repeat (first | with_reducible exact Below.refl _ _ | with_reducible assumption | ((with_reducible refine Below.setCell ?_ ?_ _); rotate_left; (simp; try omega)) | (with_reducible refine Ext.tr ?_ (by with_reducible assumption)) | (with_reducible refine Ext.al ?_ _) | (with_reducible refine below_drewN ?_ _) | (with_reducible refine Below.drew ?_)))⟩
end Go.Proofs.YtpcfmkongpmmmaaGreatDoor
