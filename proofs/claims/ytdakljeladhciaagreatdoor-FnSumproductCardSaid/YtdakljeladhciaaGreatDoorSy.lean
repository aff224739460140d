/-
  SUMPRODUCT: what both sides say is the same.
-/
import Derived.Test.YtdakljeladhciaaGreatDoorSd
import Derived.Test.YtdakljeladhciaaGreatDoorSt
namespace Go.Proofs.YtdakljeladhciaaGreatDoor
set_option linter.unusedSimpArgs false
set_option linter.unusedVariables false
open Go Go.RowKit
set_option maxRecDepth 100000

theorem sumP_cons (q : Sc × Sc) (qs : List (Sc × Sc)) : sumP (q :: qs) = prZ q + sumP qs := by
  unfold sumP
  rw [List.map_cons, List.foldl_cons, foldl_add, Int.zero_add]

theorem sumP_bound (qs : List (Sc × Sc)) (h : ∀ q ∈ qs, PairOk q) : -(1599999999984 * (qs.length : Int)) ≤ sumP qs ∧ sumP qs ≤ 1599999999984 * (qs.length : Int) := by
  induction qs with
  | nil => simp [sumP]
  | cons q qs ih =>
    have h1 := ih fun y hy => h y (List.mem_cons_of_mem _ hy)
    obtain ⟨_, _, _, _, _, h2, h3⟩ := h q (List.mem_cons_self ..)
    rw [sumP_cons, List.length_cons]
    push_cast
    omega

theorem gI_cell {x : Sc} (h : CellN x) : gI x = ⟨0, 0, ⟨#[]⟩⟩ ∧ cz x = ⟨1, 0, 1, ⟨#[]⟩⟩ ∨ gI x = ⟨1, f16 (six x), ⟨#[]⟩⟩ ∧ cz x = x ∧ NumK x := by
  rcases h with rfl | ⟨h, ht⟩
  · exact Or.inl ⟨rfl, rfl⟩
  · exact Or.inr ⟨gI_num h, by unfold cz; rw [if_neg (by rw [h.k]; decide)], h⟩

theorem gI_ok {x : Sc} (h : CellN x) : IvOk (gI x) := by
  rcases gI_cell h with ⟨e, _⟩ | ⟨e, _, hn⟩
  · rw [e]; exact Or.inl rfl
  · have hb := hn.six_le
    rw [e]; exact Or.inr (Or.inl ⟨_, rfl, tame_f16 (by omega) (by omega)⟩)

theorem cell_word {x : Sc} (h : CellN x) {a b : Nat} (hm : Ieee.double.mul a (f16 (six (cz x))) = some b) : CellW (gI x) a b := by
  rcases gI_cell h with ⟨e, ec⟩ | ⟨e, ec, hn⟩
  · rw [ec, show f16 (six ⟨1, 0, 1, ⟨#[]⟩⟩) = 0 from f16_zero] at hm
    exact ⟨0, Or.inl ⟨e, rfl⟩, hm⟩
  · have hb := hn.six_le
    rw [ec] at hm
    exact ⟨_, Or.inr ⟨e, tame_f16 (by omega) (by omega)⟩, hm⟩

/-- The word of a place. -/
def w1 (l : List Sc) (i : Nat) : Nat := match l[i]? with
  | some x => f16 (six (cz x))
  | none => 0

/-- The word of a product. -/
def w2 (l k : List Sc) (i : Nat) : Nat := (Ieee.double.mul (w1 l i) (w1 k i)).getD 0

theorem w1_at {l : List Sc} {i : Nat} {x : Sc} (h : l[i]? = some x) : w1 l i = f16 (six (cz x)) := by unfold w1; rw [h]

theorem w2_at {l k : List Sc} {i : Nat} {x y : Sc} (hx : l[i]? = some x) (hy : k[i]? = some y) (hp : PairOk (x, y)) : Ieee.double.mul (w1 l i) (f16 (six (cz y))) = some (w2 l k i) ∧ PW (w2 l k i) (prZ (x, y)) := by
  obtain ⟨q1, q2, ⟨q3, q4⟩, ⟨q5, q6⟩, q7, q8, q9⟩ := hp
  obtain ⟨W, hW, hP⟩ := mul_f16 q1 q2 q3 q4 q5 q6 q7 q8 q9
  have e : w2 l k i = W := by
    unfold w2
    rw [w1_at hx, w1_at hy, hW]; rfl
  rw [e, w1_at hx]
  exact ⟨hW, hP⟩

theorem first_words {l : List Sc} (h : ∀ x ∈ l, CellN x) (i : Nat) (y : Iv) (hy : (l.map gI)[i]? = some y) : CellW y oneW (w1 l i) := by
  rw [List.getElem?_map] at hy
  obtain ⟨x, hx, rfl⟩ := Option.map_eq_some_iff.1 hy
  have hc := h x (List.mem_of_getElem? hx)
  have hb := (cz_num hc).1.six_le
  rw [w1_at hx]
  exact cell_word hc (mul_one_f16 hb.1 hb.2)

theorem second_words {l k : List Sc} (hlen : l.length = k.length) (hk : ∀ x ∈ k, CellN x) (hp : ∀ q ∈ List.zip l k, PairOk q) (i : Nat) (y : Iv) (hy : (k.map gI)[i]? = some y) : CellW y (w1 l i) (w2 l k i) := by
  rw [List.getElem?_map] at hy
  obtain ⟨x, hx, rfl⟩ := Option.map_eq_some_iff.1 hy
  have hc := hk x (List.mem_of_getElem? hx)
  have hil : i < l.length := by
    rw [hlen]
    apply Classical.byContradiction
    intro hn
    rw [List.getElem?_eq_none (by omega)] at hx
    cases hx
  have hl : l[i]? = some l[i] := List.getElem?_eq_getElem hil
  have hz : (List.zip l k)[i]? = some (l[i], x) := List.getElem?_zip_eq_some.2 ⟨hl, hx⟩
  exact cell_word hc (w2_at hl hx (hp _ (List.mem_of_getElem? hz))).1

theorem sums_words {l k : List Sc} (hlen : l.length = k.length) (hn : l.length ≤ 1000) (hp : ∀ q ∈ List.zip l k, PairOk q) :
    sumP ((List.zip l k).take 0) = 0 ∧ (∀ i, i < l.length → Ieee.double.add (f16 (sumP ((List.zip l k).take i))) (w2 l k i) = some (f16 (sumP ((List.zip l k).take (i + 1))))) ∧
    -2 ^ 53 < sumP ((List.zip l k).take l.length) ∧ sumP ((List.zip l k).take l.length) < 2 ^ 53 := by
  have hzl : (List.zip l k).length = l.length := by rw [List.length_zip, hlen, Nat.min_self]
  have hb : ∀ i, -2 ^ 52 < sumP ((List.zip l k).take i) ∧ sumP ((List.zip l k).take i) < 2 ^ 52 := by
    intro i
    have h := sumP_bound ((List.zip l k).take i) (fun q hq => hp q (List.mem_of_mem_take hq))
    have h2 : ((List.zip l k).take i).length ≤ 1000 := by rw [List.length_take]; omega
    omega
  refine ⟨by simp [sumP], fun i hi => ?_, by have := hb l.length; omega, by have := hb l.length; omega⟩
  have hl : l[i]? = some l[i] := List.getElem?_eq_getElem hi
  have hk : k[i]? = some (k[i]'(by omega)) := List.getElem?_eq_getElem (by omega)
  have hz : (List.zip l k)[i]? = some (l[i], k[i]'(by omega)) := List.getElem?_zip_eq_some.2 ⟨hl, hk⟩
  have hpo := hp _ (List.mem_of_getElem? hz)
  have hw := (w2_at hl hk hpo).2
  obtain ⟨_, _, _, _, _, q8, q9⟩ := hpo
  rw [sumP_take (Lib.hid hz)]
  exact add_pw hw (hb i).1 (hb i).2 (by omega) (by omega)
end Go.Proofs.YtdakljeladhciaaGreatDoor
