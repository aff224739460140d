/-
  sumproduct of the reference.
-/
import Derived.Test.YtdakljeladhciaaGreatDoorPn
import Derived.Test.YtdakljeladhciaaGreatDoorPw
import Derived.StillTailTactics
namespace Go.Proofs.YtdakljeladhciaaGreatDoor
set_option linter.unusedSimpArgs false
set_option linter.unusedVariables false
open Go Go.RowKit
set_option maxRecDepth 100000

/-- A cell as a number. -/
def cz (x : Sc) : Sc := if x.k = 0 then ⟨1, 0, 1, ⟨#[]⟩⟩ else x

/-- Whether all cells are numbers, or empty. -/
def kk (r : List (List Sc)) : Bool := r.flatten.all fun x => [(1 : Int), 0].any fun n => x.k == n

def prZ (q : Sc × Sc) : Int := six (cz q.1) * six (cz q.2) / 16

def PairOk (q : Sc × Sc) : Prop := NumK (cz q.1) ∧ NumK (cz q.2) ∧ (-16777216 ≤ (cz q.1).n ∧ (cz q.1).n ≤ 16777216) ∧ (-16777216 ≤ (cz q.2).n ∧ (cz q.2).n ≤ 16777216) ∧ prZ q * 16 = six (cz q.1) * six (cz q.2) ∧ -1599999999984 ≤ prZ q ∧ prZ q ≤ 1599999999984

/-- The sum of the products. -/
def sumP (qs : List (Sc × Sc)) : Int := (qs.map prZ).foldl (· + ·) 0

theorem sumP_snoc (qs : List (Sc × Sc)) (q : Sc × Sc) : sumP (qs ++ [q]) = sumP qs + prZ q := by
  unfold sumP; rw [List.map_append, List.foldl_append]; rfl

theorem sumP_take {qs : List (Sc × Sc)} {k : Nat} {q : Sc × Sc} (h : Hid (qs[k]? = some q)) : sumP (qs.take (k + 1)) = sumP (qs.take k) + prZ q := by
  rw [take_succ_at h, sumP_snoc]

/-- What the sum says so far. -/
def AccP (qs : List (Sc × Sc)) (k : Nat) (x : Sc) : Prop := x = ⟨6, 0, 0, ⟨#[]⟩⟩ ∨ ((∀ q ∈ qs.take k, PairOk q) ∧ NumK x ∧ x.t = ⟨#[]⟩ ∧ six x = sumP (qs.take k))

/-- What the product says so far. -/
def ProdP (x1 x2 : Sc) (j : Nat) (y : Sc) : Prop :=
  y = ⟨6, 0, 0, ⟨#[]⟩⟩ ∨ (NumK y ∧ y.t = ⟨#[]⟩ ∧ (j = 0 → y = ⟨1, 1, 1, ⟨#[]⟩⟩) ∧ (j = 1 → six y = six (cz x1) ∧ -16777216 ≤ (cz x1).n ∧ (cz x1).n ≤ 16777216) ∧ (j = 2 → PairOk (x1, x2) ∧ six y = prZ (x1, x2)))

/-- A cell that sumproduct takes. -/
def CellN (x : Sc) : Prop := x = ⟨0, 0, 0, ⟨#[]⟩⟩ ∨ (NumK x ∧ x.t = ⟨#[]⟩)

theorem cz_num {x : Sc} (h : CellN x) : NumK (cz x) ∧ (cz x).t = ⟨#[]⟩ := by
  rcases h with rfl | ⟨h, ht⟩
  · exact ⟨numK_zero, rfl⟩
  · unfold cz; rw [if_neg (by rw [h.k]; decide)]; exact ⟨h, ht⟩

theorem cell_of_item {x : Sc} (h : ItemSc x) (hk : ([(1 : Int), 0].any fun n => x.k == n) = true) : CellN x := by
  rcases h with rfl | ⟨Z, ⟨h, ht, hZ⟩ | rfl⟩ | ⟨t, rfl⟩ | rfl | rfl | ⟨t, rfl⟩
  · exact Or.inl rfl
  · exact Or.inr ⟨h, ht⟩
  all_goals exact absurd hk (by simp)

theorem prod_step1 {x1 x2 y : Sc} (hx : CellN x1) (h : MulP ⟨1, 1, 1, ⟨#[]⟩⟩ (cz x1) y) : ProdP x1 x2 1 y := by
  rcases h with h | ⟨h1, h2, h3, _, h5⟩
  · exact Or.inl h
  · refine Or.inr ⟨h1, h2, fun h => by omega, fun _ => ⟨?_, h5⟩, fun h => by omega⟩
    have e : six ⟨1, 1, 1, ⟨#[]⟩⟩ = 16 := by decide
    rw [e, Int.mul_comm 16] at h3
    exact Int.eq_of_mul_eq_mul_right (by decide) h3

theorem prod_step2 {x1 x2 y p : Sc} (h1 : CellN x1) (h2 : CellN x2) (hy : six y = six (cz x1) ∧ -16777216 ≤ (cz x1).n ∧ (cz x1).n ≤ 16777216) (h : MulP y (cz x2) p) : ProdP x1 x2 2 p := by
  rcases h with h | ⟨q1, q2, q3, _, q5⟩
  · exact Or.inl h
  · obtain ⟨e, e1⟩ := hy
    rw [e] at q3
    have hz : prZ (x1, x2) = six p := by
      unfold prZ
      rw [← q3]
      exact Int.mul_ediv_cancel _ (by decide)
    have hb := q1.six_le
    exact Or.inr ⟨q1, q2, fun h => by omega, fun h => by omega, fun _ => ⟨⟨(cz_num h1).1, (cz_num h2).1, e1, q5, by rw [hz]; exact q3, by rw [hz]; exact hb.1, by rw [hz]; exact hb.2⟩, hz.symm⟩⟩

theorem kindsAt_two (w : World) (n : Nat) (hn : n = w.heap.size) (t : TypeId) : KindsAt (w.alloc (.cells #[.int .i64 1, .int .i64 0] t)) n [1, 0] := by
  subst hn
  intro i m hi
  match i, hi with
  | 0, hi => have e : (1 : Int) = m := by simpa using hi
             subst e; simp [go_sem]
  | 1, hi => have e : (0 : Int) = m := by simpa using hi
             subst e; simp [go_sem]

/-- How a matrix lies as an argument. -/
structure MatAt (w : World) (b o bm c L H : Nat) (r : List (List Sc)) (C : Nat) : Prop where
  at5 : At5m w b o ⟨5, 0, 0, ⟨#[]⟩, some ⟨bm, 0, none⟩, r.length, c⟩
  lie : MLie Sc.cells 5 L H w bm 0 r
  ne : r ≠ []
  len : r.length ≤ 120
  cols : ∀ row ∈ r, row.length = C
  pos : 1 ≤ C
  six : C ≤ 6
  high : H ≤ w.heap.size
  item : ∀ x ∈ r.flatten, ItemSc x

theorem MatAt.ext {w w' : World} {b o bm c L H C : Nat} {r : List (List Sc)} (h : MatAt w b o bm c L H r C) (hb : Ext w w') : MatAt w' b o bm c L H r C :=
  ⟨h.at5.ext hb, h.lie.ext hb, h.ne, h.len, h.cols, h.pos, h.six, Nat.le_trans h.high hb.size, h.item⟩

theorem MatAt.flat {w : World} {b o bm c L H C : Nat} {r : List (List Sc)} (h : MatAt w b o bm c L H r C) : r.flatten.length = r.length * C ∧ r.flatten ≠ [] ∧ r.flatten.length ≤ 720 := by
  have e := rect_len h.cols
  have hp := List.length_pos_iff.2 h.ne
  have h1 := Nat.mul_le_mul h.len h.six
  have h2 := Nat.mul_le_mul hp h.pos
  refine ⟨e, fun h0 => ?_, by omega⟩
  rw [h0] at e
  simp only [List.length_nil] at e
  omega

/-- The call of kinds on such a matrix. -/
theorem kinds_mat {w : World} {b o bm c L H C : Nat} {r : List (List Sc)} (h : MatAt w b o bm c L H r C) (g c2 : Nat) (hk : KindsAt w g [1, 0]) :
    Calls Tryz.prog 75 #[(⟨5, 0, 0, ⟨#[]⟩, some ⟨bm, 0, none⟩, r.length, c⟩ : Mc).val, .slice (some ⟨g, 0, none⟩) 2 c2] w (Gives w (.bool (kk r))) := by
  have hro : RowsOk w ⟨5, 0, 0, ⟨#[]⟩, some ⟨bm, 0, none⟩, r.length, c⟩ r := by
    refine ⟨fun hn => absurd rfl hn, fun _ => ⟨rfl, by have := h.len; omega, fun i row hi => ?_⟩⟩
    obtain ⟨q1, g', c', q2, q3, q4, q5⟩ := h.lie i row hi
    have hm := List.mem_of_getElem? hi
    refine ⟨q1, bm, 0, _, _, _, rfl, q2, fun w' hw' => flat_scalars row g' 0 c' w' (by rw [h.cols row hm]; have := h.six; omega) (Lie.ext (Lie.of_glie q5) hw') (fun x hx => ?_)⟩
    have hi := h.item x (List.mem_flatten.2 ⟨row, hm, hx⟩)
    rcases hi with rfl | ⟨Z, ⟨h, ht, hZ⟩ | rfl⟩ | ⟨t, rfl⟩ | rfl | rfl | ⟨t, rfl⟩
    · simp
    · rw [h.k]; decide
    all_goals simp
  exact kinds_ok _ r [1, 0] g c2 w rfl hro r.flatten rfl h.flat.2.1 (by have := h.flat.2.2; omega) (by decide) hk

def MlSt (qs : List (Sc × Sc)) (V : Nat) (w wr : World) (i : Value) : Prop := ∃ (k : Nat) (x : Sc), k ≤ qs.length ∧ i = .int .i64 k ∧ Ext w wr ∧ VarAt wr V x ∧ AccP qs k x

def PrSt (x1 x2 : Sc) (P : Nat) (w wr : World) (i : Value) : Prop := ∃ (j : Nat) (y : Sc), j ≤ 2 ∧ i = .int .i64 j ∧ Ext w wr ∧ VarAt wr P y ∧ ProdP x1 x2 j y

def KiSt (r1 r2 : List (List Sc)) (w wr : World) (i : Value) : Prop := ∃ k : Nat, k ≤ 2 ∧ i = .int .i64 k ∧ Ext w wr ∧ (1 ≤ k → kk r1 = true) ∧ (2 ≤ k → kk r2 = true)

def ShSt (R1 C1 R2 C2 : Nat) (w wr : World) (i : Value) : Prop := ∃ k : Nat, k ≤ 2 ∧ i = .int .i64 k ∧ Ext w wr ∧ (2 ≤ k → R1 = R2 ∧ C1 = C2)

/-- What sumproduct says of two matrices. -/
def SpP (r1 r2 : List (List Sc)) (x : Sc) : Prop :=
  x = ⟨6, 0, 0, ⟨#[]⟩⟩ ∨ (kk r1 = true ∧ kk r2 = true ∧ ((r1.flatten.length ≠ r2.flatten.length ∧ x = ⟨4, 0, 0, ⟨#[35, 86, 65, 76, 85, 69, 33]⟩⟩) ∨
    (r1.flatten.length = r2.flatten.length ∧ (∀ q ∈ List.zip r1.flatten r2.flatten, PairOk q) ∧ NumK x ∧ x.t = ⟨#[]⟩ ∧ six x = sumP (List.zip r1.flatten r2.flatten))))

set_option maxHeartbeats 6400000 in
theorem sumproduct_ok (r1 r2 : List (List Sc)) (b b1 b2 c c1 c2 C1 C2 L1 H1 L2 H2 : Nat) (w : World) (h1 : MatAt w b 0 b1 c1 L1 H1 r1 C1) (h2 : MatAt w b 5 b2 c2 L2 H2 r2 C2) (hc : 2 ≤ c) :
    Calls Tryz.prog 65 #[.slice (some ⟨b, 0, none⟩) 2 c] w fun e w' => ∃ x : Sc, e = .returned x.val ∧ SpP r1 r2 x ∧ Ext w w' := by
  have HM1 := Lib.hid h1; have HM2 := Lib.hid h2
  have HS1 := Lib.hid (fun (w' : World) (hw : Ext w w') => shape_ok r1 b1 c1 C1 L1 H1 w' h1.ne (by have := h1.len; omega) (h1.lie.ext hw) h1.cols)
  have HS2 := Lib.hid (fun (w' : World) (hw : Ext w w') => shape_ok r2 b2 c2 C2 L2 H2 w' h2.ne (by have := h2.len; omega) (h2.lie.ext hw) h2.cols)
  have HK1 := Lib.hid (fun (w' : World) (hw : Ext w w') (t : TypeId) => kinds_mat (h1.ext (Ext.al hw (.cells #[.int .i64 1, .int .i64 0] t))) w'.heap.size 2 (kindsAt_two w' _ rfl t))
  have HK2 := Lib.hid (fun (w' : World) (hw : Ext w w') (t : TypeId) => kinds_mat (h2.ext (Ext.al hw (.cells #[.int .i64 1, .int .i64 0] t))) w'.heap.size 2 (kindsAt_two w' _ rfl t))
  have hR1 := h1.len; have hR2 := h2.len; have hC1 := h1.six; have hC2 := h2.six
  have hC1p := h1.pos
  have HA := Lib.hid (fun (w' : World) (hw : Ext w w') => (show w'.cell? ⟨b, 0, none⟩ = some (.int .i64 5) ∧ w'.cell? ⟨b, 1, none⟩ = some (.int .i64 0) ∧ w'.cell? ⟨b, 2, none⟩ = some (.int .i64 0) ∧ w'.cell? ⟨b, 3, none⟩ = some (.string ⟨#[]⟩) ∧ w'.cell? ⟨b, 4, none⟩ = some (.slice (some ⟨b1, 0, none⟩) r1.length c1) from (h1.at5.ext hw)))
  have HB := Lib.hid (fun (w' : World) (hw : Ext w w') => (show w'.cell? ⟨b, 5, none⟩ = some (.int .i64 5) ∧ w'.cell? ⟨b, 6, none⟩ = some (.int .i64 0) ∧ w'.cell? ⟨b, 7, none⟩ = some (.int .i64 0) ∧ w'.cell? ⟨b, 8, none⟩ = some (.string ⟨#[]⟩) ∧ w'.cell? ⟨b, 9, none⟩ = some (.slice (some ⟨b2, 0, none⟩) r2.length c2) from (h2.at5.ext hw)))
  have HF1 := Lib.hid h1.flat; have HF2 := Lib.hid h2.flat
  obtain ⟨N1, hN1⟩ : ∃ N1 : Nat, r1.length * C1 = N1 := ⟨_, rfl⟩
  obtain ⟨N2, hN2⟩ : ∃ N2 : Nat, r2.length * C2 = N2 := ⟨_, rfl⟩
  have hn1 : (r1.length : Int) * (C1 : Int) = (N1 : Int) := by rw [← hN1]; push_cast; rfl
  have hn2 : (r2.length : Int) * (C2 : Int) = (N2 : Int) := by rw [← hN2]; push_cast; rfl
  have hN1b : N1 ≤ 720 := by rw [← hN1, ← h1.flat.1]; exact h1.flat.2.2
  have hN2b : N2 ≤ 720 := by rw [← hN2, ← h2.flat.1]; exact h2.flat.2.2
  have HN1 := Lib.hid hN1; have HN2 := Lib.hid hN2
  obtain ⟨a0, a1, a2, a3, a4⟩ := HA.out w (Ext.rf w)
  have hbl := lt_of_cell a0
  clear h1 h2 hN1 hN2
  generalize hRR1 : r1.length = R1 at *
  generalize hRR2 : r2.length = R2 at *
  have HR1 := Lib.hid hRR1; have HR2 := Lib.hid hRR2
  clear hRR1 hRR2
  go_enter Tryz.func65, Tryz.ntmps65
  go_wp2_with fail
  refine (HS1.out _ (by repeat (first | with_reducible exact Below.refl _ _ | with_reducible assumption | ((with_reducible refine Below.setCell ?_ ?_ _); rotate_left; (simp; try omega)) | (with_reducible refine Ext.tr ?_ (by with_reducible assumption)) | (with_reducible refine Ext.al ?_ _) | (with_reducible refine below_drewN ?_ _) | (with_reducible refine Below.drew ?_)))).mono ?_
  rintro e w1 ⟨rfl, hb1⟩
  (obtain ⟨hc1, hf1, hz1⟩ := ext_facts hb1; (try simp at hz1); (have hq1_0 : w.heap.size < w1.heap.size := by omega); (have hl1_0 : w.heap.size ≤ w1.heap.size := by omega); (have hr1_0 := fun o => hc1 (w.heap.size) o (by first | omega | (simp; done) | (simp; omega))); (have hs1_0 := fun o => hf1 (w.heap.size) o (by first | omega | (simp; done) | (simp; omega))); (try simp (disch := first | omega | (simp; omega)) only [World.cell?_alloc_past, World.cell?_drew] at hr1_0); (try simp (disch := first | omega | (simp; omega)) only [World.frozen?_alloc_past, World.frozen?_drew] at hs1_0); clear hc1 hf1)
  have hbw1 : Ext w w1 := ((Ext.rf w).al _).tr hb1
  have hv0 : VarAt w1 w.heap.size ⟨0, 0, 0, ⟨#[]⟩⟩ := (VarAt.new w ⟨0, 0, 0, ⟨#[]⟩⟩).ext hb1
  have HV0 := Lib.hid (fun (w' : World) (hw : Ext w1 w') => hv0.ext hw)
  have hwl : w.heap.size < w1.heap.size := hq1_0
  clear hv0 hq1_0 hl1_0 hr1_0 hs1_0
  go_wp2
  go_loopw [5] (fun i wr => KiSt r1 r2 w1 wr i) (fun i _ => 2 - (intOf i).toNat)
  case atStart => exact ⟨0, by omega, rfl, Ext.rf _, by omega, by omega⟩
  case round =>
    obtain ⟨k, hk, hi, hb, hk1, hk2⟩ := hrel
    have hbw : Ext w wr := hbw1.tr hb
    obtain ⟨a0, a1, a2, a3, a4⟩ := HA.out wr hbw
    obtain ⟨a5, a6, a7, a8, a9⟩ := HB.out wr hbw
    rcases (show k = 0 ∨ k = 1 ∨ k = 2 by omega) with rfl | rfl | rfl
    · have hi2 : _ = Value.int .i64 0 := hi
      subst hi2
      clear hi
      go_wp2_with fail
      refine (HK1.out _ hbw _).mono ?_
      rintro e w2 ⟨rfl, hb2⟩
      have hb2' : Ext wr w2 := ((Ext.rf wr).al _).tr hb2
      have hb12 : Ext w1 w2 := hb.tr hb2'
      cases hkk : kk r1
      · clear hk1 hk2
        have hv := HV0.out w2 hb12
        obtain ⟨v0, v1, v2, v3, v4⟩ := hv.cells
        have hvf := hv.free
        have hvl : w.heap.size < w2.heap.size := by have := (hb12).size; omega
        clear hv
        go_wp2_with fail
        refine (doubt_any _).mono ?_
        rintro e w9 ⟨rfl, hb9⟩
        (obtain ⟨hc9, hf9, hz9⟩ := ext_facts hb9; (try simp at hz9); (have hq9_0 : w.heap.size < w9.heap.size := by omega); (have hl9_0 : w.heap.size ≤ w9.heap.size := by omega); (have hr9_0 := fun o => hc9 (w.heap.size) o (by first | omega | (simp; done) | (simp; omega))); (have hs9_0 := fun o => hf9 (w.heap.size) o (by first | omega | (simp; done) | (simp; omega))); (try simp (disch := first | omega | (simp; omega)) only [World.cell?_alloc_past, World.cell?_drew] at hr9_0); (try simp (disch := first | omega | (simp; omega)) only [World.frozen?_alloc_past, World.frozen?_drew] at hs9_0); clear hc9 hf9)
        have hbw9 : Ext w w9 := (hbw1.tr hb12).tr hb9
        go_wp2
        exact bodyPost_ret (v := unsure) (by simp [results, Tryz.results65, go_sem, *]) rfl ⟨⟨6, 0, 0, ⟨#[]⟩⟩, rfl, Or.inl rfl, (by repeat (first | with_reducible exact Below.refl _ _ | with_reducible assumption | ((with_reducible refine Below.setCell ?_ ?_ _); rotate_left; (simp; try omega)) | (with_reducible refine Ext.tr ?_ (by with_reducible assumption)) | (with_reducible refine Ext.al ?_ _) | (with_reducible refine below_drewN ?_ _) | (with_reducible refine Below.drew ?_)))⟩
      · have HKK := Lib.hid hkk
        clear hkk
        go_wp2
        exact ⟨⟨1, by omega, rfl, hb12, fun _ => HKK.out, by omega⟩, by simp [intOf]⟩
    · have hi2 : _ = Value.int .i64 1 := hi
      subst hi2
      clear hi
      go_wp2_with fail
      refine (HK2.out _ hbw _).mono ?_
      rintro e w2 ⟨rfl, hb2⟩
      have hb2' : Ext wr w2 := ((Ext.rf wr).al _).tr hb2
      have hb12 : Ext w1 w2 := hb.tr hb2'
      have HKK1 := Lib.hid hk1
      cases hkk : kk r2
      · clear hk1 hk2
        have hv := HV0.out w2 hb12
        obtain ⟨v0, v1, v2, v3, v4⟩ := hv.cells
        have hvf := hv.free
        have hvl : w.heap.size < w2.heap.size := by have := (hb12).size; omega
        clear hv
        go_wp2_with fail
        refine (doubt_any _).mono ?_
        rintro e w9 ⟨rfl, hb9⟩
        (obtain ⟨hc9, hf9, hz9⟩ := ext_facts hb9; (try simp at hz9); (have hq9_0 : w.heap.size < w9.heap.size := by omega); (have hl9_0 : w.heap.size ≤ w9.heap.size := by omega); (have hr9_0 := fun o => hc9 (w.heap.size) o (by first | omega | (simp; done) | (simp; omega))); (have hs9_0 := fun o => hf9 (w.heap.size) o (by first | omega | (simp; done) | (simp; omega))); (try simp (disch := first | omega | (simp; omega)) only [World.cell?_alloc_past, World.cell?_drew] at hr9_0); (try simp (disch := first | omega | (simp; omega)) only [World.frozen?_alloc_past, World.frozen?_drew] at hs9_0); clear hc9 hf9)
        have hbw9 : Ext w w9 := (hbw1.tr hb12).tr hb9
        go_wp2
        exact bodyPost_ret (v := unsure) (by simp [results, Tryz.results65, go_sem, *]) rfl ⟨⟨6, 0, 0, ⟨#[]⟩⟩, rfl, Or.inl rfl, (by repeat (first | with_reducible exact Below.refl _ _ | with_reducible assumption | ((with_reducible refine Below.setCell ?_ ?_ _); rotate_left; (simp; try omega)) | (with_reducible refine Ext.tr ?_ (by with_reducible assumption)) | (with_reducible refine Ext.al ?_ _) | (with_reducible refine below_drewN ?_ _) | (with_reducible refine Below.drew ?_)))⟩
      · have HKK := Lib.hid hkk
        clear hkk hk1 hk2
        go_wp2
        exact ⟨⟨2, by omega, rfl, hb12, fun _ => HKK1.out (by omega), fun _ => HKK.out⟩, by simp [intOf]⟩
    · have hi2 : _ = Value.int .i64 2 := hi
      subst hi2
      clear hi
      have HKK1 := Lib.hid (hk1 (by omega))
      have HKK2 := Lib.hid (hk2 (by omega))
      clear hk1 hk2 a0 a1 a2 a3 a4 a5 a6 a7 a8 a9
      go_wp2
      generalize wr = wo at *
      go_loopw [6] (fun i wq => ShSt R1 C1 R2 C2 wo wq i) (fun i _ => 2 - (intOf i).toNat)
      case atStart => exact ⟨0, by omega, rfl, Ext.rf _, by omega⟩
      case round =>
        obtain ⟨k, hk, hi, hbq, hkq⟩ := hrel
        have hbwr : Ext w wr := hbw.tr hbq
        obtain ⟨a0, a1, a2, a3, a4⟩ := HA.out wr hbwr
        obtain ⟨a5, a6, a7, a8, a9⟩ := HB.out wr hbwr
        rcases (show k = 0 ∨ k = 1 ∨ k = 2 by omega) with rfl | rfl | rfl
        · have hi2 : _ = Value.int .i64 0 := hi
          subst hi2
          clear hi
          have he1 : ((N1 : Int) != (N1 : Int)) = false := by rw [bne_eq_false_iff_eq]
          have he2 : ((R1 : Int) != (R1 : Int)) = false := by rw [bne_eq_false_iff_eq]
          go_wp2_with fail
          refine (HS1.out _ hbwr).mono ?_
          rintro e w2 ⟨rfl, hb2⟩
          have hbq2 : Ext wo w2 := hbq.tr hb2
          clear he1 he2 hkq
          go_wp2
          go_roundw
          case rel => exact ⟨1, by omega, by go_num, hbq2, by omega⟩
          case measure => simp [intOf]
        · have hi2 : _ = Value.int .i64 1 := hi
          subst hi2
          clear hi
          by_cases hnn : N2 = N1
          · by_cases hrr : R2 = R1
            · have hcc : C2 = C1 := by
                have h1 := HN1.out; have h2 := HN2.out
                have hp : 0 < R1 := by
                  have h3 := HM1.out.ne
                  have h4 := HR1.out
                  have := List.length_pos_iff.2 h3
                  omega
                rw [hrr, hnn, ← h1] at h2
                exact Nat.eq_of_mul_eq_mul_left hp h2
              have he1 : ((N2 : Int) != (N1 : Int)) = false := by rw [bne_eq_false_iff_eq, hnn]
              have he2 : ((R2 : Int) != (R1 : Int)) = false := by rw [bne_eq_false_iff_eq, hrr]
              have HRR := Lib.hid hrr; have HCC := Lib.hid hcc
              clear hnn hrr hcc
              go_wp2_with fail
              refine (HS2.out _ hbwr).mono ?_
              rintro e w2 ⟨rfl, hb2⟩
              have hbq2 : Ext wo w2 := hbq.tr hb2
              go_wp2
              go_roundw
              case rel => exact ⟨2, by omega, by go_num, hbq2, fun _ => ⟨HRR.out.symm, HCC.out.symm⟩⟩
              case measure => simp [intOf]
            · have he1 : ((N2 : Int) != (N1 : Int)) = false := by rw [bne_eq_false_iff_eq, hnn]
              have he2 : ((R2 : Int) != (R1 : Int)) = true := by rw [bne_iff_ne]; omega
              clear hnn hrr
              go_wp2_with fail
              refine (HS2.out _ hbwr).mono ?_
              rintro e w2 ⟨rfl, hb2⟩
              have hb12 : Ext w1 w2 := (hb.tr hbq).tr hb2
              have hv := HV0.out w2 hb12
              obtain ⟨v0, v1, v2, v3, v4⟩ := hv.cells
              have hvf := hv.free
              have hvl : w.heap.size < w2.heap.size := by have := hb12.size; omega
              clear hv
              go_wp2_with fail
              refine (doubt_any _).mono ?_
              rintro e w9 ⟨rfl, hb9⟩
              (obtain ⟨hc9, hf9, hz9⟩ := ext_facts hb9; (try simp at hz9); (have hq9_0 : w.heap.size < w9.heap.size := by omega); (have hl9_0 : w.heap.size ≤ w9.heap.size := by omega); (have hr9_0 := fun o => hc9 (w.heap.size) o (by first | omega | (simp; done) | (simp; omega))); (have hs9_0 := fun o => hf9 (w.heap.size) o (by first | omega | (simp; done) | (simp; omega))); (try simp (disch := first | omega | (simp; omega)) only [World.cell?_alloc_past, World.cell?_drew] at hr9_0); (try simp (disch := first | omega | (simp; omega)) only [World.frozen?_alloc_past, World.frozen?_drew] at hs9_0); clear hc9 hf9)
              have hbw9 : Ext w w9 := (hbw1.tr hb12).tr hb9
              go_wp2
              exact bodyPost_ret (v := unsure) (by simp [results, Tryz.results65, go_sem, *]) rfl ⟨⟨6, 0, 0, ⟨#[]⟩⟩, rfl, Or.inl rfl, (by repeat (first | with_reducible exact Below.refl _ _ | with_reducible assumption | ((with_reducible refine Below.setCell ?_ ?_ _); rotate_left; (simp; try omega)) | (with_reducible refine Ext.tr ?_ (by with_reducible assumption)) | (with_reducible refine Ext.al ?_ _) | (with_reducible refine below_drewN ?_ _) | (with_reducible refine Below.drew ?_)))⟩
          · have he1 : ((N2 : Int) != (N1 : Int)) = true := by rw [bne_iff_ne]; omega
            have HNN := Lib.hid (show r1.flatten.length ≠ r2.flatten.length by rw [HF1.out.1, HF2.out.1, HN1.out, HN2.out]; exact fun e => hnn e.symm)
            clear hnn
            go_wp2_with fail
            refine (HS2.out _ hbwr).mono ?_
            rintro e w2 ⟨rfl, hb2⟩
            have hb12 : Ext w1 w2 := (hb.tr hbq).tr hb2
            have hv := HV0.out w2 hb12
            obtain ⟨v0, v1, v2, v3, v4⟩ := hv.cells
            have hvf := hv.free
            have hvl : w.heap.size < w2.heap.size := by have := hb12.size; omega
            clear hv
            go_wp2_with fail
            refine (err_any _ _).mono ?_
            rintro e w9 ⟨rfl, hb9⟩
            (obtain ⟨hc9, hf9, hz9⟩ := ext_facts hb9; (try simp at hz9); (have hq9_0 : w.heap.size < w9.heap.size := by omega); (have hl9_0 : w.heap.size ≤ w9.heap.size := by omega); (have hr9_0 := fun o => hc9 (w.heap.size) o (by first | omega | (simp; done) | (simp; omega))); (have hs9_0 := fun o => hf9 (w.heap.size) o (by first | omega | (simp; done) | (simp; omega))); (try simp (disch := first | omega | (simp; omega)) only [World.cell?_alloc_past, World.cell?_drew] at hr9_0); (try simp (disch := first | omega | (simp; omega)) only [World.frozen?_alloc_past, World.frozen?_drew] at hs9_0); clear hc9 hf9)
            have hbw9 : Ext w w9 := (hbw1.tr hb12).tr hb9
            go_wp2
            exact bodyPost_ret (v := errv ⟨#[35, 86, 65, 76, 85, 69, 33]⟩) (by simp [results, Tryz.results65, go_sem, *]) rfl ⟨⟨4, 0, 0, ⟨#[35, 86, 65, 76, 85, 69, 33]⟩⟩, rfl, Or.inr ⟨HKK1.out, HKK2.out, Or.inl ⟨HNN.out, rfl⟩⟩, (by repeat (first | with_reducible exact Below.refl _ _ | with_reducible assumption | ((with_reducible refine Below.setCell ?_ ?_ _); rotate_left; (simp; try omega)) | (with_reducible refine Ext.tr ?_ (by with_reducible assumption)) | (with_reducible refine Ext.al ?_ _) | (with_reducible refine below_drewN ?_ _) | (with_reducible refine Below.drew ?_)))⟩
        · have hi2 : _ = Value.int .i64 2 := hi
          subst hi2
          clear hi
          obtain ⟨rfl, rfl⟩ := hkq (by omega)
          clear hkq a0 a1 a2 a3 a4 a5 a6 a7 a8 a9 hn2
          have hNN : N2 = N1 := by rw [← HN1.out, ← HN2.out]
          have hl2 : r2.flatten.length = N1 := by rw [HF2.out.1, HN2.out, hNN]
          have hl1 : r1.flatten.length = N1 := by rw [HF1.out.1, HN1.out]
          obtain ⟨qs, hqs⟩ : ∃ qs, List.zip r1.flatten r2.flatten = qs := ⟨_, rfl⟩
          have hql : qs.length = N1 := by rw [← hqs, List.length_zip, hl1, hl2, Nat.min_self]
          have HQS := Lib.hid hqs; have HL12 := Lib.hid (hl1.trans hl2.symm); have HL1 := Lib.hid hl1
          have hC0 : ¬ ((C1 : Int) = 0) := by omega
          have hC0n : ¬ (C1 = 0) := by omega
          have hC0b : ((C1 : Int) == 0) = false := by rw [beq_eq_false_iff_ne]; omega
          clear hNN hl2 hl1 hqs HN2 hN2b
          go_wp2_with fail
          refine (int_ok 0 _ (by omega) (by omega)).mono ?_
          rintro e w3 ⟨rfl, hb3⟩
          have hb13 : Ext w1 w3 := (hb.tr hbq).tr hb3
          have hsz3 := hb13.size
          go_wp2
          go_loopw [10] (fun i wq => MlSt qs w3.heap.size w3 wq i) (fun i _ => N1 - (intOf i).toNat)
          case atStart => exact ⟨0, ⟨1, 0, 1, ⟨#[]⟩⟩, Nat.zero_le _, rfl, (by repeat (first | with_reducible exact Below.refl _ _ | with_reducible assumption | ((with_reducible refine Below.setCell ?_ ?_ _); rotate_left; (simp; try omega)) | (with_reducible refine Ext.tr ?_ (by with_reducible assumption)) | (with_reducible refine Ext.al ?_ _) | (with_reducible refine below_drewN ?_ _) | (with_reducible refine Below.drew ?_))), VarAt.new w3 ⟨1, 0, 1, ⟨#[]⟩⟩, Or.inr ⟨by simp, numK_zero, rfl, rfl⟩⟩
          case round =>
            generalize wr = wp at *
            obtain ⟨k, x, hk, rfl, hbp, hvx, hacc⟩ := hrel
            have HVX := Lib.hid (fun (w' : World) (hw : Ext wp w') => hvx.ext hw)
            have HACC := Lib.hid hacc
            have hb1p : Ext w1 wp := hb13.tr hbp
            have hbwp : Ext w wp := hbw1.tr hb1p
            have hpz := hbp.size
            clear hvx hacc
            by_cases hlt : k < N1
            · obtain ⟨row1, x1, g1, g2, g3⟩ := rect_get HM1.out.cols HM1.out.pos (i := k) (by rw [HR1.out, HN1.out]; exact hlt)
              obtain ⟨row2, x2, e1, e2, e3⟩ := rect_get HM2.out.cols HM2.out.pos (i := k) (by rw [HR2.out, HN1.out]; exact hlt)
              have Hq := Lib.hid (show qs[k]? = some (x1, x2) by rw [← HQS.out]; exact List.getElem?_zip_eq_some.2 ⟨g3, e3⟩)
              have hx1 : CellN x1 := cell_of_item (HM1.out.item x1 (List.mem_of_getElem? g3)) (List.all_eq_true.1 HKK1.out x1 (List.mem_of_getElem? g3))
              have hx2 : CellN x2 := cell_of_item (HM2.out.item x2 (List.mem_of_getElem? e3)) (List.all_eq_true.1 HKK2.out x2 (List.mem_of_getElem? e3))
              obtain ⟨_, ga, ca, q1, _, _, q4⟩ := HM1.out.lie _ row1 g1
              obtain ⟨_, gb, cb, q5, _, _, q8⟩ := HM2.out.lie _ row2 e1
              rw [HM1.out.cols row1 (List.mem_of_getElem? g1), Nat.zero_add] at q1
              rw [HM2.out.cols row2 (List.mem_of_getElem? e1), Nat.zero_add] at q5
              have HC1 := Lib.hid (fun (w' : World) (hw : Ext w w') => hw.get q1)
              have HC2 := Lib.hid (fun (w' : World) (hw : Ext w w') => hw.get q5)
              have HD1 := Lib.hid (fun (w' : World) (hw : Ext w w') => (Lie.ext (Lie.of_glie q4) hw).head g2)
              have HD2 := Lib.hid (fun (w' : World) (hw : Ext w w') => (Lie.ext (Lie.of_glie q8) hw).head e2)
              have hdiv : (k : Int).tdiv (C1 : Int) = ((k / C1 : Nat) : Int) := rfl
              have hmod : (k : Int).tmod (C1 : Int) = ((k % C1 : Nat) : Int) := rfl
              have hdiv2 : (k : Int) / (C1 : Int) = ((k / C1 : Nat) : Int) := rfl
              have hmod2 : (k : Int) % (C1 : Int) = ((k % C1 : Nat) : Int) := rfl
              have hqb : k / C1 < R1 := (Nat.div_lt_iff_lt_mul (by omega)).2 (by rw [HN1.out]; exact hlt)
              have hjb : k % C1 < C1 := Nat.mod_lt _ (by omega)
              have HX1 := Lib.hid hx1; have HX2 := Lib.hid hx2
              clear g1 g2 g3 e1 e2 e3 hx1 hx2 q1 q4 q5 q8
              generalize hqq : k / C1 = q at *
              generalize hjj : k % C1 = jj at *
              go_wp2_with fail
              refine (int_ok 1 _ (by omega) (by omega)).mono ?_
              rintro e w5 ⟨rfl, hb5⟩
              have hb15 : Ext w1 w5 := hb1p.tr hb5
              have hp5 := hb5.size
              go_wp2
              go_loopw [12] (fun i wq => PrSt x1 x2 w5.heap.size w5 wq i) (fun i _ => 2 - (intOf i).toNat)
              case atStart => exact ⟨0, ⟨1, 1, 1, ⟨#[]⟩⟩, Nat.zero_le _, rfl, (by repeat (first | with_reducible exact Below.refl _ _ | with_reducible assumption | ((with_reducible refine Below.setCell ?_ ?_ _); rotate_left; (simp; try omega)) | (with_reducible refine Ext.tr ?_ (by with_reducible assumption)) | (with_reducible refine Ext.al ?_ _) | (with_reducible refine below_drewN ?_ _) | (with_reducible refine Below.drew ?_))), VarAt.new w5 ⟨1, 1, 1, ⟨#[]⟩⟩, Or.inr ⟨⟨rfl, Or.inl rfl, by decide, by decide⟩, rfl, fun _ => rfl, fun h => by omega, fun h => by omega⟩⟩
              case round =>
                generalize wr = wi at *
                obtain ⟨j, y, hj, hi, hbi, hvy, hpy⟩ := hrel
                have hbwi : Ext w wi := (hbw1.tr hb15).tr hbi
                obtain ⟨a0, a1, a2, a3, a4⟩ := HA.out wi hbwi
                obtain ⟨a5, a6, a7, a8, a9⟩ := HB.out wi hbwi
                have ce1 := HC1.out wi hbwi
                have ce2 := HC2.out wi hbwi
                obtain ⟨d0, d1, d2, d3, d4⟩ := HD1.out wi hbwi
                obtain ⟨f0, f1, f2, f3, f4⟩ := HD2.out wi hbwi
                obtain ⟨y0, y1, y2, y3, y4⟩ := hvy.cells
                have hyf := hvy.free
                have hzi := hbi.size
                rcases (show j = 0 ∨ j = 1 ∨ j = 2 by omega) with rfl | rfl | rfl
                · have hi2 : _ = Value.int .i64 0 := hi
                  subst hi2
                  clear hi
                  have hmul : ∀ w', Calls Tryz.prog 148 #[y.val, (cz x1).val] w' fun e w2 => ∃ p : Sc, e = .returned p.val ∧ ProdP x1 x2 1 p ∧ Ext w' w2 := by
                    intro w'
                    rcases hpy with rfl | ⟨_, _, h9, _, _⟩
                    · exact (mul_unsure _ w').mono fun e w2 ⟨h1, h2⟩ => ⟨⟨6, 0, 0, ⟨#[]⟩⟩, h1, Or.inl rfl, h2⟩
                    · rw [h9 rfl]
                      exact (mul_num ⟨1, 1, 1, ⟨#[]⟩⟩ (cz x1) w' ⟨rfl, Or.inl rfl, by decide, by decide⟩ (cz_num HX1.out).1 rfl (cz_num HX1.out).2).mono fun e w2 ⟨p, h1, h2, h3⟩ => ⟨p, h1, prod_step1 HX1.out h2, h3⟩
                  have HMUL := Lib.hid hmul
                  clear hmul hpy
                  have hbl' := lt_of_cell a4
                  have hb1l := lt_of_cell ce1
                  have hgal := lt_of_cell d0
                  have n1 : ¬ wi.heap.size = b := by omega
                  have n2 : ¬ wi.heap.size = b1 := by omega
                  have n3 : ¬ wi.heap.size = ga := by omega
                  clear a0 a1 a2 a3 a5 a6 a7 a8 a9 ce2 f0 f1 f2 f3 f4
                  have hwq : IntKind.i64.wrap (q : Int) = (q : Int) := wrap_id (by omega) (by omega)
                  have hwm : IntKind.i64.wrap (jj : Int) = (jj : Int) := wrap_id (by omega) (by omega)
                  go_wp2_with fail
                  go_region_held3 (fun w' => w'.cell? ⟨b, 4, none⟩ = some (.slice (some ⟨b1, 0, none⟩) R1 c1) ∧ w'.cell? ⟨b1, q, none⟩ = some (.slice (some ⟨ga, 0, none⟩) C1 ca) ∧ w'.cell? ⟨ga, jj * 5, none⟩ = some (.int .i64 x1.k) ∧ w'.cell? ⟨ga, jj * 5 + 1, none⟩ = some (.int .i64 x1.n) ∧ w'.cell? ⟨ga, jj * 5 + 2, none⟩ = some (.int .i64 x1.d) ∧ w'.cell? ⟨ga, jj * 5 + 3, none⟩ = some (.string x1.t) ∧ w'.cell? ⟨ga, jj * 5 + 4, none⟩ = some (.slice none 0 0))
                    (first | go_keep | (go_split_ands; refine ⟨?_, ?_, ?_, ?_, ?_, ?_, ?_⟩ <;> (simp [go_sem, n1, n2, n3, *])))
                    (fail)
                  have hvv : VarAt (wi.alloc (.cells #[.int .i64 x1.k, .int .i64 x1.n, .int .i64 x1.d, .string x1.t, .slice none 0 0] 28)).drew wi.heap.size x1 := (VarAt.new wi x1).drew
                  have hbW : Ext wi (wi.alloc (.cells #[.int .i64 x1.k, .int .i64 x1.n, .int .i64 x1.d, .string x1.t, .slice none 0 0] 28)).drew := Below.drew ((Ext.rf wi).al _)
                  have hpl : w5.heap.size < wi.heap.size := block_lt_heap hvy
                  have HVY := Lib.hid (fun (w' : World) (hw : Ext wi w') => hvy.ext hw)
                  clear y0 y1 y2 y3 y4 hyf n1 n2 n3 hwq hwm d0 d1 d2 d3 d4 ce1 hbl' hb1l hgal a4 hvy
                  generalize (wi.alloc (.cells #[.int .i64 x1.k, .int .i64 x1.n, .int .i64 x1.d, .string x1.t, .slice none 0 0] 28)).drew = wv at hvv hbW ⊢
                  obtain ⟨v0, v1, v2, v3, v4⟩ := hvv.cells
                  have hvf := hvv.free
                  have hvl : wi.heap.size < wv.heap.size := block_lt_heap hvv
                  have hne : ¬ wi.heap.size = w5.heap.size := by omega
                  have hne2 : ¬ w5.heap.size = wi.heap.size := by omega
                  have HVV := Lib.hid (fun (w' : World) (hw : Ext wv w') => hvv.ext hw)
                  have hcx := HX1.out
                  obtain ⟨yk, yn, yd, yt⟩ := y
                  rcases hcx with hcx | ⟨hcx, hct⟩
                  · have HX0 := Lib.hid hcx
                    rw [hcx] at v0 v1 v2 v3
                    simp only at v0 v1 v2 v3
                    have hcz : cz x1 = ⟨1, 0, 1, ⟨#[]⟩⟩ := by rw [hcx]; rfl
                    rw [hcz] at HMUL
                    clear hcx hcz hvv
                    go_wp2_with fail
                    refine (int_ok 0 _ (by omega) (by omega)).mono ?_
                    rintro e w6 ⟨rfl, hb6⟩
                    obtain ⟨v0, v1, v2, v3, v4⟩ := (HVV.out w6 hb6).cells
                    have hvf := (HVV.out w6 hb6).free
                    obtain ⟨y0, y1, y2, y3, y4⟩ := (HVY.out w6 (hbW.tr hb6)).cells
                    have hyf := (HVY.out w6 (hbW.tr hb6)).free
                    have hz6 := hb6.size
                    have hv6 : wi.heap.size < w6.heap.size := by omega
                    have hW6 : Ext wi w6 := hbW.tr hb6
                    go_wp2_with fail
                    refine (HMUL.out _).mono ?_
                    rintro e w7 ⟨p, rfl, hp, hb7⟩
                    have HP7 := Lib.hid hp
                    have hW7 : Ext wi w7 := Ext.tr (by repeat (first | with_reducible exact Below.refl _ _ | with_reducible assumption | ((with_reducible refine Below.setCell ?_ ?_ _); rotate_left; (simp; try omega)) | (with_reducible refine Ext.tr ?_ (by with_reducible assumption)) | (with_reducible refine Ext.al ?_ _) | (with_reducible refine below_drewN ?_ _) | (with_reducible refine Below.drew ?_))) hb7
                    have hv7 := HVY.out w7 hW7
                    obtain ⟨y0, y1, y2, y3, y4⟩ := hv7.cells
                    have hyf := hv7.free
                    have hz7 : w5.heap.size < w7.heap.size := block_lt_heap hv7
                    have HV7 := Lib.hid hv7
                    clear hv7 hp
                    obtain ⟨pk, pn, pd, pt⟩ := p
                    go_wp2
                    exact ⟨⟨1, ⟨pk, pn, pd, pt⟩, by omega, by go_num, (by repeat (first | with_reducible exact Below.refl _ _ | with_reducible assumption | ((with_reducible refine Below.setCell ?_ ?_ _); rotate_left; (simp; try omega)) | (with_reducible refine Ext.tr ?_ (by with_reducible assumption)) | (with_reducible refine Ext.al ?_ _) | (with_reducible refine below_drewN ?_ _) | (with_reducible refine Below.drew ?_))), HV7.out.set ⟨pk, pn, pd, pt⟩, HP7.out⟩, by simp [intOf]⟩
                  · have hk1 := hcx.k
                    have hcz : cz x1 = x1 := by unfold cz; rw [if_neg (by rw [hk1]; decide)]
                    rw [hcz] at HMUL
                    have hk0 : (x1.k == 0) = false := by rw [hk1]; decide
                    have hk0n : ¬ x1.k = 0 := by rw [hk1]; decide
                    clear hcx hct hcz hk1 hvv
                    obtain ⟨y0, y1, y2, y3, y4⟩ := (HVY.out wv hbW).cells
                    have hyf := (HVY.out wv hbW).free
                    go_wp2_with fail
                    refine (HMUL.out _).mono ?_
                    rintro e w7 ⟨p, rfl, hp, hb7⟩
                    have HP7 := Lib.hid hp
                    have hW7 : Ext wi w7 := hbW.tr hb7
                    have hv7 := HVY.out w7 hW7
                    obtain ⟨y0, y1, y2, y3, y4⟩ := hv7.cells
                    have hyf := hv7.free
                    have hz7 : w5.heap.size < w7.heap.size := block_lt_heap hv7
                    have HV7 := Lib.hid hv7
                    clear hv7 hp
                    obtain ⟨pk, pn, pd, pt⟩ := p
                    go_wp2
                    exact ⟨⟨1, ⟨pk, pn, pd, pt⟩, by omega, by go_num, (by repeat (first | with_reducible exact Below.refl _ _ | with_reducible assumption | ((with_reducible refine Below.setCell ?_ ?_ _); rotate_left; (simp; try omega)) | (with_reducible refine Ext.tr ?_ (by with_reducible assumption)) | (with_reducible refine Ext.al ?_ _) | (with_reducible refine below_drewN ?_ _) | (with_reducible refine Below.drew ?_))), HV7.out.set ⟨pk, pn, pd, pt⟩, HP7.out⟩, by simp [intOf]⟩
                · have hi2 : _ = Value.int .i64 1 := hi
                  subst hi2
                  clear hi
                  have hmul : ∀ w', Calls Tryz.prog 148 #[y.val, (cz x2).val] w' fun e w2 => ∃ p : Sc, e = .returned p.val ∧ ProdP x1 x2 2 p ∧ Ext w' w2 := by
                    intro w'
                    rcases hpy with rfl | ⟨h7, h8, _, h9, _⟩
                    · exact (mul_unsure _ w').mono fun e w2 ⟨h1, h2⟩ => ⟨⟨6, 0, 0, ⟨#[]⟩⟩, h1, Or.inl rfl, h2⟩
                    · exact (mul_num y (cz x2) w' h7 (cz_num HX2.out).1 h8 (cz_num HX2.out).2).mono fun e w2 ⟨p, h1, h2, h3⟩ => ⟨p, h1, prod_step2 HX1.out HX2.out (h9 rfl) h2, h3⟩
                  have HMUL := Lib.hid hmul
                  clear hmul hpy
                  have hbl' := lt_of_cell a4
                  have hb1l := lt_of_cell ce2
                  have hgal := lt_of_cell f0
                  have n1 : ¬ wi.heap.size = b := by omega
                  have n2 : ¬ wi.heap.size = b2 := by omega
                  have n3 : ¬ wi.heap.size = gb := by omega
                  clear a0 a1 a2 a3 a5 a6 a7 a8 ce1 d0 d1 d2 d3 d4
                  have hwq : IntKind.i64.wrap (q : Int) = (q : Int) := wrap_id (by omega) (by omega)
                  have hwm : IntKind.i64.wrap (jj : Int) = (jj : Int) := wrap_id (by omega) (by omega)
                  go_wp2_with fail
                  go_region_held3 (fun w' => w'.cell? ⟨b, 9, none⟩ = some (.slice (some ⟨b2, 0, none⟩) R1 c2) ∧ w'.cell? ⟨b2, q, none⟩ = some (.slice (some ⟨gb, 0, none⟩) C1 cb) ∧ w'.cell? ⟨gb, jj * 5, none⟩ = some (.int .i64 x2.k) ∧ w'.cell? ⟨gb, jj * 5 + 1, none⟩ = some (.int .i64 x2.n) ∧ w'.cell? ⟨gb, jj * 5 + 2, none⟩ = some (.int .i64 x2.d) ∧ w'.cell? ⟨gb, jj * 5 + 3, none⟩ = some (.string x2.t) ∧ w'.cell? ⟨gb, jj * 5 + 4, none⟩ = some (.slice none 0 0))
                    (first | go_keep | (go_split_ands; refine ⟨?_, ?_, ?_, ?_, ?_, ?_, ?_⟩ <;> (simp [go_sem, n1, n2, n3, *])))
                    (fail)
                  have hvv : VarAt (wi.alloc (.cells #[.int .i64 x2.k, .int .i64 x2.n, .int .i64 x2.d, .string x2.t, .slice none 0 0] 28)).drew wi.heap.size x2 := (VarAt.new wi x2).drew
                  have hbW : Ext wi (wi.alloc (.cells #[.int .i64 x2.k, .int .i64 x2.n, .int .i64 x2.d, .string x2.t, .slice none 0 0] 28)).drew := Below.drew ((Ext.rf wi).al _)
                  have hpl : w5.heap.size < wi.heap.size := block_lt_heap hvy
                  have HVY := Lib.hid (fun (w' : World) (hw : Ext wi w') => hvy.ext hw)
                  clear y0 y1 y2 y3 y4 hyf n1 n2 n3 hwq hwm f0 f1 f2 f3 f4 ce2 hbl' hb1l hgal a9 a4 hvy
                  generalize (wi.alloc (.cells #[.int .i64 x2.k, .int .i64 x2.n, .int .i64 x2.d, .string x2.t, .slice none 0 0] 28)).drew = wv at hvv hbW ⊢
                  obtain ⟨v0, v1, v2, v3, v4⟩ := hvv.cells
                  have hvf := hvv.free
                  have hvl : wi.heap.size < wv.heap.size := block_lt_heap hvv
                  have hne : ¬ wi.heap.size = w5.heap.size := by omega
                  have hne2 : ¬ w5.heap.size = wi.heap.size := by omega
                  have HVV := Lib.hid (fun (w' : World) (hw : Ext wv w') => hvv.ext hw)
                  have hcx := HX2.out
                  obtain ⟨yk, yn, yd, yt⟩ := y
                  rcases hcx with hcx | ⟨hcx, hct⟩
                  · have HX0 := Lib.hid hcx
                    rw [hcx] at v0 v1 v2 v3
                    simp only at v0 v1 v2 v3
                    have hcz : cz x2 = ⟨1, 0, 1, ⟨#[]⟩⟩ := by rw [hcx]; rfl
                    rw [hcz] at HMUL
                    clear hcx hcz hvv
                    go_wp2_with fail
                    refine (int_ok 0 _ (by omega) (by omega)).mono ?_
                    rintro e w6 ⟨rfl, hb6⟩
                    obtain ⟨v0, v1, v2, v3, v4⟩ := (HVV.out w6 hb6).cells
                    have hvf := (HVV.out w6 hb6).free
                    obtain ⟨y0, y1, y2, y3, y4⟩ := (HVY.out w6 (hbW.tr hb6)).cells
                    have hyf := (HVY.out w6 (hbW.tr hb6)).free
                    have hz6 := hb6.size
                    have hv6 : wi.heap.size < w6.heap.size := by omega
                    have hW6 : Ext wi w6 := hbW.tr hb6
                    go_wp2_with fail
                    refine (HMUL.out _).mono ?_
                    rintro e w7 ⟨p, rfl, hp, hb7⟩
                    have HP7 := Lib.hid hp
                    have hW7 : Ext wi w7 := Ext.tr (by repeat (first | with_reducible exact Below.refl _ _ | with_reducible assumption | ((with_reducible refine Below.setCell ?_ ?_ _); rotate_left; (simp; try omega)) | (with_reducible refine Ext.tr ?_ (by with_reducible assumption)) | (with_reducible refine Ext.al ?_ _) | (with_reducible refine below_drewN ?_ _) | (with_reducible refine Below.drew ?_))) hb7
                    have hv7 := HVY.out w7 hW7
                    obtain ⟨y0, y1, y2, y3, y4⟩ := hv7.cells
                    have hyf := hv7.free
                    have hz7 : w5.heap.size < w7.heap.size := block_lt_heap hv7
                    have HV7 := Lib.hid hv7
                    clear hv7 hp
                    obtain ⟨pk, pn, pd, pt⟩ := p
                    go_wp2
                    exact ⟨⟨2, ⟨pk, pn, pd, pt⟩, by omega, by go_num, (by repeat (first | with_reducible exact Below.refl _ _ | with_reducible assumption | ((with_reducible refine Below.setCell ?_ ?_ _); rotate_left; (simp; try omega)) | (with_reducible refine Ext.tr ?_ (by with_reducible assumption)) | (with_reducible refine Ext.al ?_ _) | (with_reducible refine below_drewN ?_ _) | (with_reducible refine Below.drew ?_))), HV7.out.set ⟨pk, pn, pd, pt⟩, HP7.out⟩, by simp [intOf]⟩
                  · have hk1 := hcx.k
                    have hcz : cz x2 = x2 := by unfold cz; rw [if_neg (by rw [hk1]; decide)]
                    rw [hcz] at HMUL
                    have hk0 : (x2.k == 0) = false := by rw [hk1]; decide
                    have hk0n : ¬ x2.k = 0 := by rw [hk1]; decide
                    clear hcx hct hcz hk1 hvv
                    obtain ⟨y0, y1, y2, y3, y4⟩ := (HVY.out wv hbW).cells
                    have hyf := (HVY.out wv hbW).free
                    go_wp2_with fail
                    refine (HMUL.out _).mono ?_
                    rintro e w7 ⟨p, rfl, hp, hb7⟩
                    have HP7 := Lib.hid hp
                    have hW7 : Ext wi w7 := hbW.tr hb7
                    have hv7 := HVY.out w7 hW7
                    obtain ⟨y0, y1, y2, y3, y4⟩ := hv7.cells
                    have hyf := hv7.free
                    have hz7 : w5.heap.size < w7.heap.size := block_lt_heap hv7
                    have HV7 := Lib.hid hv7
                    clear hv7 hp
                    obtain ⟨pk, pn, pd, pt⟩ := p
                    go_wp2
                    exact ⟨⟨2, ⟨pk, pn, pd, pt⟩, by omega, by go_num, (by repeat (first | with_reducible exact Below.refl _ _ | with_reducible assumption | ((with_reducible refine Below.setCell ?_ ?_ _); rotate_left; (simp; try omega)) | (with_reducible refine Ext.tr ?_ (by with_reducible assumption)) | (with_reducible refine Ext.al ?_ _) | (with_reducible refine below_drewN ?_ _) | (with_reducible refine Below.drew ?_))), HV7.out.set ⟨pk, pn, pd, pt⟩, HP7.out⟩, by simp [intOf]⟩
                · have hi2 : _ = Value.int .i64 2 := hi
                  subst hi2
                  clear hi a0 a1 a2 a3 a4 a5 a6 a7 a8 a9 ce1 ce2 d0 d1 d2 d3 d4 f0 f1 f2 f3 f4
                  have hvx := HVX.out wi (hb5.tr hbi)
                  obtain ⟨x0, x1c, x2c, x3, x4⟩ := hvx.cells
                  have hxf := hvx.free
                  have hxl : w3.heap.size < wi.heap.size := block_lt_heap hvx
                  have hadd : ∀ w', Calls Tryz.prog 147 #[x.val, y.val] w' fun e w2 => ∃ p : Sc, e = .returned p.val ∧ AccP qs (k + 1) p ∧ Ext w' w2 := by
                    intro w'
                    have htk := take_succ_at Hq
                    rcases hpy with rfl | ⟨h7, h8, _, _, h9⟩
                    · refine (add_unsure2 x w' ?_).mono fun e w2 ⟨h1, h2⟩ => ⟨⟨6, 0, 0, ⟨#[]⟩⟩, h1, Or.inl rfl, h2⟩
                      rcases HACC.out with rfl | ⟨_, h, _⟩
                      · exact Or.inr rfl
                      · exact Or.inl h.k
                    · obtain ⟨hpo, hsy⟩ := h9 rfl
                      rcases HACC.out with rfl | ⟨ha1, ha2, ha3, ha4⟩
                      · exact (add_unsure y w').mono fun e w2 ⟨h1, h2⟩ => ⟨⟨6, 0, 0, ⟨#[]⟩⟩, h1, Or.inl rfl, h2⟩
                      · refine (add_num x y w' ha2 h7 ha3 h8).mono ?_
                        rintro e w2 ⟨p, h1, h2, h3⟩
                        refine ⟨p, h1, ?_, h3⟩
                        rcases h2 with ⟨q1, q2, q3⟩ | q1
                        · refine Or.inr ⟨fun q hq => ?_, q1, q2, ?_⟩
                          · rw [htk] at hq
                            rcases List.mem_append.1 hq with hq | hq
                            · exact ha1 q hq
                            · rw [List.mem_singleton.1 hq]; exact hpo
                          · rw [sumP_take Hq, ← ha4, ← hsy]; exact q3
                        · exact Or.inl q1
                  have HADD := Lib.hid hadd
                  have HVX2 := Lib.hid (fun (w' : World) (hw : Ext wi w') => hvx.ext hw)
                  clear hadd hpy hvx hvy
                  obtain ⟨yk, yn, yd, yt⟩ := y
                  obtain ⟨xk, xn, xd, xt⟩ := x
                  go_wp2_with fail
                  refine (HADD.out _).mono ?_
                  rintro e w7 ⟨p, rfl, hp, hb7⟩
                  have HP7 := Lib.hid hp
                  have hv7 := HVX2.out w7 hb7
                  obtain ⟨z0, z1, z2, z3, z4⟩ := hv7.cells
                  have hzf := hv7.free
                  have hz7 : w3.heap.size < w7.heap.size := block_lt_heap hv7
                  have HV7 := Lib.hid hv7
                  have hb37 : Ext w3 w7 := ((hbp.tr hb5).tr hbi).tr hb7
                  clear hv7 hp
                  obtain ⟨pk, pn, pd, pt⟩ := p
                  go_wp2
                  go_roundw
                  case rel => exact ⟨k + 1, ⟨pk, pn, pd, pt⟩, by omega, by go_num, (by repeat (first | with_reducible exact Below.refl _ _ | with_reducible assumption | ((with_reducible refine Below.setCell ?_ ?_ _); rotate_left; (simp; try omega)) | (with_reducible refine Ext.tr ?_ (by with_reducible assumption)) | (with_reducible refine Ext.al ?_ _) | (with_reducible refine below_drewN ?_ _) | (with_reducible refine Below.drew ?_))), HV7.out.set ⟨pk, pn, pd, pt⟩, HP7.out⟩
                  case measure => simp [intOf]; omega
            · have hkN : k = N1 := by omega
              have hvx := HVX.out wp (Ext.rf _)
              obtain ⟨x0, x1c, x2c, x3, x4⟩ := hvx.cells
              have hxl : w3.heap.size < wp.heap.size := block_lt_heap hvx
              have hv := HV0.out wp hb1p
              obtain ⟨v0, v1, v2, v3, v4⟩ := hv.cells
              have hvf := hv.free
              have hvl : w.heap.size < wp.heap.size := block_lt_heap hv
              have hfin : SpP r1 r2 x := by
                rcases HACC.out with h | ⟨h1, h2, h3, h4⟩
                · exact Or.inl h
                · rw [List.take_of_length_le (by omega)] at h1 h4
                  exact Or.inr ⟨HKK1.out, HKK2.out, Or.inr ⟨HL12.out, by rw [HQS.out]; exact h1, h2, h3, by rw [HQS.out]; exact h4⟩⟩
              have HFIN := Lib.hid hfin
              clear hfin hkN hv hvx
              obtain ⟨xk, xn, xd, xt⟩ := x
              go_wp2
              exact bodyPost_ret (v := Sc.val ⟨xk, xn, xd, xt⟩) (by simp [results, Tryz.results65, go_sem, *]) rfl ⟨⟨xk, xn, xd, xt⟩, rfl, HFIN.out, (by repeat (first | with_reducible exact Below.refl _ _ | with_reducible assumption | ((with_reducible refine Below.setCell ?_ ?_ _); rotate_left; (simp; try omega)) | (with_reducible refine Ext.tr ?_ (by with_reducible assumption)) | (with_reducible refine Ext.al ?_ _) | (with_reducible refine below_drewN ?_ _) | (with_reducible refine Below.drew ?_)))⟩
end Go.Proofs.YtdakljeladhciaaGreatDoor
