/-
  SUM's closure on a matrix.
-/
import Derived.Test.YtgdilpecibjidaaGreatDoorSu
namespace Go.Proofs.YtgdilpecibjidaaGreatDoor
set_option linter.unusedSimpArgs false
set_option linter.unusedVariables false
open Go Go.RowKit
set_option maxRecDepth 100000

/-- The sum of what values add. -/
def sumI {α : Type} (zf : α → Int) (xs : List α) : Int := (xs.map zf).foldl (· + ·) 0

theorem foldlI_add (l : List Int) (a : Int) : l.foldl (· + ·) a = a + l.foldl (· + ·) 0 := by
  induction l generalizing a with
  | nil => simp
  | cons x l ih => rw [List.foldl_cons, List.foldl_cons, ih (a + x), ih (0 + x)]; omega

theorem sumI_append {α : Type} (zf : α → Int) (xs ys : List α) : sumI zf (xs ++ ys) = sumI zf xs + sumI zf ys := by
  unfold sumI; rw [List.map_append, List.foldl_append, foldlI_add]

theorem sumI_one {α : Type} (zf : α → Int) (x : α) : sumI zf [x] = zf x := by simp [sumI]

theorem sumI_take {α : Type} (zf : α → Int) {xs : List α} {k : Nat} {x : α} (h : Hid (xs[k]? = some x)) : sumI zf (xs.take (k + 1)) = sumI zf (xs.take k) + zf x := by
  rw [take_succ_at h, sumI_append, sumI_one]

theorem sumI_bound {α : Type} (zf : α → Int) (M : Int) (xs : List α) (hM : 0 ≤ M) (h : ∀ x ∈ xs, -M ≤ zf x ∧ zf x ≤ M) : -(M * xs.length) ≤ sumI zf xs ∧ sumI zf xs ≤ M * xs.length := by
  induction xs with
  | nil => simp [sumI]
  | cons x xs ih =>
    have h1 := ih fun y hy => h y (List.mem_cons_of_mem _ hy)
    have h2 := h x (List.mem_cons_self ..)
    rw [show x :: xs = [x] ++ xs from rfl, sumI_append, sumI_one]
    have e : M * (([x] ++ xs).length : Int) = M + M * xs.length := by
      rw [List.length_append]; push_cast; rw [Int.mul_add]; simp
    rw [e]
    omega

/-- The cells of a value in a row. -/
theorem fa_cells {w : World} {g : Nat} {xs : List Iv} (h : GLie innerL 10 w g 0 xs) {i : Nat} {x : Iv} (hx : xs[i]? = some x) {f : Nat} {s : ByteArray} {b : Bool} {m : ByteArray} {k : Int}
    (he : innerC x = #[.string ⟨#[]⟩, .float .f64 f, .string s, .slice none 0 0, .slice none 0 0, .bool b, .string m, .int .u8 k, .pointer none, .pointer none]) :
    w.cell? ⟨g, i * 10, none⟩ = some (.string ⟨#[]⟩) ∧ w.cell? ⟨g, i * 10 + 1, none⟩ = some (.float .f64 f) ∧ w.cell? ⟨g, i * 10 + 2, none⟩ = some (.string s) ∧ w.cell? ⟨g, i * 10 + 3, none⟩ = some (.slice none 0 0) ∧
    w.cell? ⟨g, i * 10 + 4, none⟩ = some (.slice none 0 0) ∧ w.cell? ⟨g, i * 10 + 5, none⟩ = some (.bool b) ∧ w.cell? ⟨g, i * 10 + 6, none⟩ = some (.string m) ∧ w.cell? ⟨g, i * 10 + 7, none⟩ = some (.int .u8 k) ∧
    w.cell? ⟨g, i * 10 + 8, none⟩ = some (.pointer none) ∧ w.cell? ⟨g, i * 10 + 9, none⟩ = some (.pointer none) := by
  have key : ∀ j u, (innerL x)[j]? = some u → w.cell? ⟨g, i * 10 + j, none⟩ = some u := fun j u hu => by
    have := h i x hx j u hu
    rwa [Nat.zero_add] at this
  unfold innerL at key
  rw [he] at key
  exact ⟨key 0 _ rfl, key 1 _ rfl, key 2 _ rfl, key 3 _ rfl, key 4 _ rfl, key 5 _ rfl, key 6 _ rfl, key 7 _ rfl, key 8 _ rfl, key 9 _ rfl⟩

/-- The closure itself. -/
abbrev cloV (S F : Nat) : Value := .func (.func 42) #[] #[ptr S, ptr F]

def ClSt (zf : Iv → Int) (xs : List Iv) (Z : Int) (S : Nat) (w wr : World) (i : Value) : Prop :=
  ∃ k : Nat, k ≤ xs.length ∧ i = .int .i64 k ∧ SumAt wr S (f16 (Z + sumI zf (xs.take k))) ∧ Keeps [S] w wr

set_option maxHeartbeats 3200000 in
theorem clo_mat (zf : Iv → Int) (rows : List (List Iv)) (Z : Int) (L H b c p1 p2 S F : Nat) (w : World) (hs : SumAt w S (f16 Z)) (hF : w.cell? ⟨F, 0, none⟩ = some (cloV S F)) (hFS : F ≠ S)
    (h1 : -500000000000000 ≤ Z) (h2 : Z ≤ 500000000000000) (hne : rows ≠ []) (hfl : rows.flatten.length ≤ 1000) (hml : MLie innerL 10 L H w b 0 rows)
    (hp1 : w.cell? ⟨p1, 4, none⟩ = some (.int .i64 0)) (hp2 : w.cell? ⟨p2, 4, none⟩ = some (.int .i64 1)) (hz : ∀ x ∈ rows.flatten, IvOk x ∧ Cz x (zf x)) :
    Calls Tryz.prog 42 #[.agg (matC b rows.length c p1 p2), .bool false, ptr S, ptr F] w (CloP S (f16 (Z + sumI zf rows.flatten)) w) := by
  have hbz : ∀ x ∈ rows.flatten, -1599999999984 ≤ zf x ∧ zf x ≤ 1599999999984 := fun x hx => by
    have h := (hz x hx).2
    unfold Cz at h
    split at h
    · exact h.2
    · omega
  have HT := Lib.hid (fun (w' : World) (hw : Ext w w') => toList_mat rows L H b c p1 p2 w' hne hfl (hml.ext hw))
  have HS := Lib.hid hs; have HF := Lib.hid hF; have HZ := Lib.hid hz; have HBZ := Lib.hid hbz
  have HP1 := Lib.hid hp1; have HP2 := Lib.hid hp2
  have hfne : rows.flatten ≠ [] := by
    intro h0
    have h3 := rows_le_flatten (rows := rows) (fun row hr => by
      obtain ⟨i, hi⟩ := List.getElem?_of_mem hr
      exact (hml i row hi).1)
    rw [h0] at h3
    exact hne (List.eq_nil_of_length_eq_zero (by simpa using h3))
  have hsl := block_lt_heap hs
  have hFl := lt_of_cell hF
  clear hs hF hz hbz hp1 hp2 hml
  generalize rows.flatten = xs at hfl HT HZ HBZ hfne ⊢
  go_enter Tryz.func42, Tryz.ntmps42
  go_wp2_with fail
  refine (len_cell p1 0 _ (((Ext.rf w).al _).get HP1.out)).mono ?_
  rintro e w1 ⟨rfl, rfl⟩
  go_wp2_with fail
  refine (len_cell p2 1 _ (((Ext.rf w).al _).get HP2.out)).mono ?_
  rintro e w1 ⟨rfl, rfl⟩
  go_wp2_with fail
  refine (HT.out _ ((Ext.rf w).al _)).mono ?_
  rintro e w1 ⟨v, rfl, hown, hb1⟩
  obtain ⟨g, cap, hv, hg, hgl⟩ := GOwns.lie innerL_len hown hfne
  subst hv
  have hgs := (World.ownsRow.lt hown g rfl).2
  have HG := Lib.hid hgl
  have hbw : Ext w w1 := ((Ext.rf w).al _).tr hb1
  have hgS : g ≠ S := by simp at hg; omega
  have hs1 := HS.out.ext hbw
  have HS1 := Lib.hid hs1
  clear hown hgl hs1
  go_wp2
  go_loopw [63] (fun i wr => ClSt zf xs Z S w1 wr i) (fun i _ => xs.length - (intOf i).toNat)
  case atStart => exact ⟨0, Nat.zero_le _, rfl, by simpa [sumI] using HS1.out, Keeps.of_ext (Ext.rf _)⟩
  case round =>
    obtain ⟨k, hk, rfl, hsr, hkr⟩ := hrel
    have HSR := Lib.hid hsr; have HKR := Lib.hid hkr
    have hszr := hkr.size
    by_cases hlt : k < xs.length
    · obtain ⟨x, Hx⟩ := elem_at hlt
      obtain ⟨f, s, bb, mm, kk, he⟩ := innerC_form x
      have hgr : GLie innerL 10 wr g 0 xs := HG.out.blk (hkr.block g hgs (by simpa using hgS))
      obtain ⟨c0, c1, c2, c3, c4, c5, c6, c7, c8, c9⟩ := fa_cells hgr Hx.out he
      have hFr : wr.cell? ⟨F, 0, none⟩ = some (cloV S F) := by
        rw [World.cell?_of_block (a := ⟨F, 0, none⟩) (hkr.block F (by have := hbw.size; omega) (by simpa using hFS))]
        exact hbw.get HF.out
      have hsb := sumI_bound zf 1599999999984 (xs.take k) (by omega) (fun y hy => HBZ.out y (List.mem_of_mem_take hy))
      have hkl : (xs.take k).length ≤ 1000 := by rw [List.length_take]; omega
      have hst := sumI_take zf Hx
      obtain ⟨hxo, hxz⟩ := HZ.out x (mem_at Hx)
      have hFlr : F < wr.heap.size := by have := hbw.size; omega
      have hglr : g < wr.heap.size := by omega
      have HC := Lib.hid (fun (w' : World) (hw : Ext wr w') => clo_cell x (zf x) (Z + sumI zf (xs.take k)) S F w' hxo hxz (by omega) (by omega) (HSR.out.ext hw))
      rw [he, show Z + sumI zf (xs.take k) + zf x = Z + sumI zf (xs.take (k + 1)) by rw [hst]; omega] at HC
      clear hsr hkr hgr hsb hkl hst hxo hxz he
      go_wp2_with fail
      refine (HC.out _ ((Ext.rf _).al _)).mono ?_
      rintro e w2 ⟨rfl, hs2, hk2⟩
      have HS2 := Lib.hid hs2; have HK2 := Lib.hid hk2
      clear hs2 hk2
      go_wp2
      go_roundw
      case rel => exact ⟨k + 1, by omega, by go_num, HS2.out, HKR.out.tr ((Keeps.of_ext ((Ext.rf _).al _)).tr HK2.out)⟩
      case measure => simp [intOf]; omega
    · have hfull : xs.take k = xs := List.take_of_length_le (by omega)
      rw [hfull] at HSR
      clear hsr hkr
      have hfin : CloP S (f16 (Z + sumI zf xs)) w (.returned (.tuple #[])) wr := ⟨rfl, HSR.out, (Keeps.of_ext hbw).tr HKR.out⟩
      have HFIN := Lib.hid hfin; clear hfin
      go_wp2
      exact ⟨rfl, .tuple #[], by simp [results, Tryz.results42, go_sem], HFIN.out⟩
end Go.Proofs.YtgdilpecibjidaaGreatDoor
