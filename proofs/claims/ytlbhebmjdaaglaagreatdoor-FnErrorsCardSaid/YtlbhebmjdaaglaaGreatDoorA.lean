/-
  Words for the walks: a value of the reference as its cells, lists of such values in memory, and what a call leaves of old memory.
-/
import Derived.Test.YtlbhebmjdaaglaaGreatDoorProg
import Derived.Test.YtlbhebmjdaaglaaGreatDoorFl
import Derived.WalkKit
import Derived.WalkSpells
import Derived.WalkLawsBesides
import Derived.KernelRfl
import Derived.Lib.Hide
import Derived.Deep.QuietTactic
import Derived.BigQuiet
namespace Go.Proofs.YtlbhebmjdaaglaaGreatDoor
set_option linter.unusedSimpArgs false
set_option linter.unusedVariables false
open Go Go.RowKit

@[go_sem] theorem run_store_float (P : Program) (w : World) (a : Addr) (m : Mode) (k : FloatKind) (b : Nat) : (store a (.float k b) m).run P w = stored P w a (.float k b) m := run_store P w a _ m rfl
@[go_sem] theorem floatOfInt_fx (n : Int) : floatOfInt .f64 n = Fl.fx 0 n := rfl

/-- All that was there when the call began is as it was. -/
abbrev Ext (w w' : World) : Prop := Below w.heap.size w w'

theorem Ext.rf (w : World) : Ext w w := Below.refl _ _
theorem Ext.tr {a b c : World} (h : Ext a b) (k : Ext b c) : Ext a c := Below.trans h (Below.mono k h.size)
theorem Ext.al {a b : World} (h : Ext a b) (o : Obj) : Ext a (b.alloc o) := Below.alloc h h.size o
theorem Ext.get {w w' : World} (h : Ext w w') {a : Addr} {v : Value} (hc : w.cell? a = some v) : w'.cell? a = some v := cell_later h hc

/-- What the walk wants to know behind a call that leaves old memory alone. -/
theorem ext_facts {W w1 : World} (hb : Ext W w1) : (∀ b o, b < W.heap.size → w1.cell? ⟨b, o, none⟩ = W.cell? ⟨b, o, none⟩) ∧ (∀ b o, b < W.heap.size → w1.frozen? ⟨b, o, none⟩ = W.frozen? ⟨b, o, none⟩) ∧ W.heap.size ≤ w1.heap.size :=
  ⟨fun b o h => hb.cell (p := ⟨b, o, none⟩) h, fun b o h => hb.frozen (p := ⟨b, o, none⟩) h, hb.size⟩

theorem lt_of_cell {w : World} {b o : Nat} {s : Option Nat} {v : Value} (h : w.cell? ⟨b, o, s⟩ = some v) : b < w.heap.size := by
  apply Classical.byContradiction
  intro hn
  unfold World.cell? at h
  rw [Array.getElem?_eq_none (by simp only; omega)] at h
  cases h

/-- A call that hands back v and leaves old memory alone. -/
def Gives (w : World) (v : Value) (e : Ending) (w' : World) : Prop := e = .returned v ∧ Ext w w'

/-- A single value of the reference: its kind, number, denominator, text; its Rows are nil. -/
structure Sc where
  k : Int
  n : Int
  d : Int
  t : ByteArray

abbrev Sc.val (x : Sc) : Value := .agg #[.int .i64 x.k, .int .i64 x.n, .int .i64 x.d, .string x.t, .slice none 0 0]

/-- The empty text. -/
abbrev nos : ByteArray := ⟨#[]⟩

/-- The value of which nothing is said. -/
abbrev unsure : Value := .agg #[.int .i64 6, .int .i64 0, .int .i64 0, .string ⟨#[]⟩, .slice none 0 0]
abbrev number (n d : Int) : Value := .agg #[.int .i64 1, .int .i64 n, .int .i64 d, .string ⟨#[]⟩, .slice none 0 0]
abbrev errv (t : ByteArray) : Value := .agg #[.int .i64 4, .int .i64 0, .int .i64 0, .string t, .slice none 0 0]

/-- The five cells of a value at a place. -/
def At5 (w : World) (b o : Nat) (x : Sc) : Prop :=
  w.cell? ⟨b, o, none⟩ = some (.int .i64 x.k) ∧ w.cell? ⟨b, o + 1, none⟩ = some (.int .i64 x.n) ∧ w.cell? ⟨b, o + 2, none⟩ = some (.int .i64 x.d) ∧
  w.cell? ⟨b, o + 3, none⟩ = some (.string x.t) ∧ w.cell? ⟨b, o + 4, none⟩ = some (.slice none 0 0)

/-- The values xs lie in block b from cell o on. -/
def Lie (w : World) (b o : Nat) (xs : List Sc) : Prop := ∀ i x, xs[i]? = some x → At5 w b (o + i * 5) x

theorem At5.ext {w w' : World} {b o : Nat} {x : Sc} (h : At5 w b o x) (hb : Ext w w') : At5 w' b o x :=
  ⟨hb.get h.1, hb.get h.2.1, hb.get h.2.2.1, hb.get h.2.2.2.1, hb.get h.2.2.2.2⟩
theorem Lie.ext {w w' : World} {b o : Nat} {xs : List Sc} (h : Lie w b o xs) (hb : Ext w w') : Lie w' b o xs := fun i x hx => (h i x hx).ext hb
/-- The five cells of a value at the head of a row, as the walk spells them. -/
theorem Lie.head {w : World} {b : Nat} {xs : List Sc} (h : Lie w b 0 xs) {i : Nat} {x : Sc} (hx : xs[i]? = some x) : At5 w b (i * 5) x := by
  have := h i x hx
  rwa [Nat.zero_add] at this
theorem Lie.at {w : World} {b o : Nat} {xs : List Sc} (h : Lie w b o xs) {i : Nat} (hi : i < xs.length) : At5 w b (o + i * 5) xs[i] := h i _ (List.getElem?_eq_getElem hi)

/-- The element at a place, as a name of its own. -/
theorem elem_at {α : Type} {xs : List α} {k : Nat} (h : k < xs.length) : ∃ x, Hid (xs[k]? = some x) := ⟨xs[k], List.getElem?_eq_getElem h⟩
theorem mem_at {α : Type} {xs : List α} {k : Nat} {x : α} (h : Hid (xs[k]? = some x)) : x ∈ xs := List.mem_of_getElem? h.out
theorem take_succ_at {α : Type} {xs : List α} {k : Nat} {x : α} (h : Hid (xs[k]? = some x)) : xs.take (k + 1) = xs.take k ++ [x] := by
  rw [List.take_add_one, h.out]; rfl

def Sc.cells (x : Sc) : List Value := [.int .i64 x.k, .int .i64 x.n, .int .i64 x.d, .string x.t, .slice none 0 0]

theorem flat_at {α β : Type} {f : α → List β} {z : Nat} (hf : ∀ x, (f x).length = z) : ∀ (xs : List α) (i j : Nat) (x : α), xs[i]? = some x → j < z → (xs.flatMap f)[i * z + j]? = (f x)[j]? := by
  intro xs
  induction xs with
  | nil => intro i j x h; cases h
  | cons y ys ih =>
    intro i j x h hj
    rw [List.flatMap_cons]
    cases i with
    | zero =>
      have e : y = x := by simpa using h
      subst e
      rw [Nat.zero_mul, Nat.zero_add, List.getElem?_append_left (by rw [hf]; exact hj)]
    | succ i =>
      have h' : ys[i]? = some x := by simpa using h
      rw [List.getElem?_append_right (by rw [hf, Nat.succ_mul]; omega), hf, show (i + 1) * z + j - z = i * z + j by rw [Nat.succ_mul]; omega]
      exact ih i j x h' hj

theorem flat_len {α β : Type} {f : α → List β} {z : Nat} (hf : ∀ x, (f x).length = z) (xs : List α) : (xs.flatMap f).length = xs.length * z := by
  induction xs with
  | nil => simp
  | cons y ys ih => rw [List.flatMap_cons, List.length_append, hf, ih, List.length_cons, Nat.succ_mul]; omega

theorem Sc.cells_len (x : Sc) : x.cells.length = 5 := rfl

/-- The slice value v owns the values xs: a row of the call's own, in a block from B on. -/
def Owns (w : World) (B : Nat) (v : Value) (xs : List Sc) : Prop := w.ownsRow B 24 5 v xs.length (xs.flatMap Sc.cells)

theorem Owns.nil (w : World) (B : Nat) : Owns w B (.slice none 0 0) [] := ⟨rfl, Or.inl ⟨rfl, rfl⟩⟩

theorem cell_of_row {w : World} {g : Nat} {cur : Array Value} {e : TypeId} (h : w.heap[g]? = some (.cells cur e (0, 0))) (i : Nat) : w.cell? ⟨g, i, none⟩ = cur[i]? := by
  simp [World.cell?, h]

/-- What is owned can be read. -/
theorem Owns.lie {w : World} {B : Nat} {v : Value} {xs : List Sc} (h : Owns w B v xs) (hne : xs ≠ []) :
    ∃ g cap, v = .slice (some ⟨g, 0, none⟩) xs.length cap ∧ B ≤ g ∧ Lie w g 0 xs := by
  obtain ⟨hl, h⟩ := h
  rcases h with ⟨_, h0⟩ | ⟨g, cap, cur, hv, hg, hh, hn, hm, hc, ht⟩
  · exact absurd (List.eq_nil_of_length_eq_zero h0) hne
  · refine ⟨g, cap, hv, hg, fun i x hx => ?_⟩
    have hi : i < xs.length := by
      apply Classical.byContradiction
      intro hn
      rw [List.getElem?_eq_none (by omega)] at hx
      cases hx
    have key : ∀ j, j < 5 → w.cell? ⟨g, 0 + i * 5 + j, none⟩ = x.cells[j]? := by
      intro j hj
      rw [cell_of_row hh, Nat.zero_add, ← flat_at Sc.cells_len xs i j x hx hj, ← ht, List.getElem?_take, if_pos (by omega), Array.getElem?_toList]
    exact ⟨key 0 (by omega), key 1 (by omega), key 2 (by omega), key 3 (by omega), key 4 (by omega)⟩

theorem Owns.below {w : World} {B : Nat} {v : Value} {xs : List Sc} (h : Owns w B v xs) : ∀ k, v.ownBlock = some k → B ≤ k := by
  intro k hk
  obtain ⟨_, ⟨h, _⟩ | ⟨g, cap, cur, hv, hg, _⟩⟩ := h
  · rw [h] at hk; cases hk
  · rw [hv] at hk; cases hk; exact hg

theorem Owns.alloc {w : World} {B : Nat} {v : Value} {xs : List Sc} (h : Owns w B v xs) (o : Obj) : Owns (w.alloc o) B v xs := World.ownsRow.alloc h o

/-- Owned rows are kept by a call that leaves old memory alone. -/
theorem Owns.ext {w w' : World} {B : Nat} {v : Value} {xs : List Sc} (h : Owns w B v xs) (hb : Ext w w') : Owns w' B v xs := by
  obtain ⟨hl, h⟩ := h
  refine ⟨hl, ?_⟩
  rcases h with h | ⟨g, cap, cur, hv, hg, hh, r⟩
  · exact Or.inl h
  · refine Or.inr ⟨g, cap, cur, hv, hg, ?_, r⟩
    rw [hb.block g (by
      apply Classical.byContradiction; intro hn
      rw [Array.getElem?_eq_none (by omega)] at hh; cases hh)]
    exact hh

theorem Owns.setBelow {w : World} {B : Nat} {v : Value} {xs : List Sc} (h : Owns w B v xs) {a : Addr} (ha : a.block < B) (u : Value) : Owns (w.setCell a u) B v xs := ownsRow_setCell_below h ha u
theorem Owns.mono {w : World} {B B' : Nat} {v : Value} {xs : List Sc} (h : Owns w B v xs) (hB : B' ≤ B) : Owns w B' v xs := by
  obtain ⟨hl, h⟩ := h
  refine ⟨hl, ?_⟩
  rcases h with h | ⟨g, cap, cur, hv, hg, r⟩
  · exact Or.inl h
  · exact Or.inr ⟨g, cap, cur, hv, Nat.le_trans hB hg, r⟩
theorem ext_lt {w wr : World} {o : Obj} (h : Ext (w.alloc o) wr) : w.heap.size < wr.heap.size := by
  have := h.size
  simp only [World.size_alloc] at this
  omega

theorem infoVal : (Tryz.prog.info? 24).map (fun i => (i.zero, i.size, i.bytes)) = some (some (.agg #[.int .i64 0, .int .i64 0, .int .i64 0, .string ⟨#[]⟩, .slice none 0 0]), 5, 64) := by kernel_rfl

theorem Sc.cells_one (x : Sc) : ∀ u ∈ x.cells, u.oneCell' = true := by
  intro u hu
  simp only [Sc.cells, List.mem_cons, List.mem_nil_iff, or_false] at hu
  rcases hu with rfl | rfl | rfl | rfl | rfl <;> rfl

theorem Lie.news {w : World} {b : Nat} {o : Nat} {ys : List Sc} (hy : Lie w b o ys) : ∀ j u, (ys.flatMap Sc.cells)[j]? = some u → w.cell? ((⟨b, o, none⟩ : Addr).add j) = some u := by
  intro j u hj
  have hlt : j < ys.length * 5 := by
    rw [← flat_len Sc.cells_len ys]
    apply Classical.byContradiction; intro hn
    rw [List.getElem?_eq_none (by omega)] at hj; cases hj
  obtain ⟨x, hx⟩ : ∃ x, ys[j / 5]? = some x := ⟨ys[j / 5], List.getElem?_eq_getElem (by omega)⟩
  have h := hy (j / 5) x hx
  rw [show j = j / 5 * 5 + j % 5 by omega, flat_at Sc.cells_len ys (j / 5) (j % 5) x hx (by omega)] at hj
  have hadd : ∀ n, (⟨b, o, none⟩ : Addr).add n = ⟨b, o + n, none⟩ := by
    intro n; unfold Addr.add; by_cases h0 : n = 0 <;> simp [h0]
  rw [hadd, show o + j = o + j / 5 * 5 + j % 5 by omega]
  have h5 : j % 5 < 5 := by omega
  obtain ⟨h0, h1, h2, h3, h4⟩ := h
  rcases (show j % 5 = 0 ∨ j % 5 = 1 ∨ j % 5 = 2 ∨ j % 5 = 3 ∨ j % 5 = 4 by omega) with e | e | e | e | e <;> rw [e] at hj ⊢ <;> simp only [Sc.cells, List.getElem?_cons_zero, List.getElem?_cons_succ, Option.some.injEq] at hj <;> subst hj <;> assumption

/-- append of values that lie somewhere to a slice of the call's own. -/
theorem append_vals {ops : Array Oper} {rest : List Oper} {o : Oper} {a : Act} {Q : Exit → Act → World → Prop} (hgd : o.guard = none) (s x : Operand) {w : World}
    (ho : o.op = .call { callee := .builtin .append, args := #[s, x], argTypes := #[28, 28] })
    (B : Nat) (v : Value) (xs : List Sc) (hs : a.eval s = v) (hown : Owns w B v xs) (b bo c : Nat) (ys : List Sc) (hx : a.eval x = .slice (some ⟨b, bo, none⟩) ys.length c)
    (hy : Lie w b bo ys) (hlen : xs.length + ys.length ≤ 1000000000000) (hB : B ≤ w.heap.size)
    (h : ∀ v' w', Owns w' B v' (xs ++ ys) → w.grownBy w' v.ownBlock → wpList Tryz.prog ops Q rest (a.put o.dst v') w') : wpList Tryz.prog ops Q (o :: rest) a w := by
  obtain ⟨i0, hi, hz0, hz1, hz2⟩ := info_parts infoVal
  refine wpList_append_own w hgd s x 28 ho B 24 i0 _ 5 64 Tryz.underlying28 hi hz0 hz1 hz2 rfl (by decide) v xs.length (xs.flatMap Sc.cells) hs hown
    ⟨b, bo, none⟩ ys.length c (ys.flatMap Sc.cells) hx (flat_len Sc.cells_len ys) hy.news ?_ (by unfold maxLen; omega) (by omega) hB ?_
  · intro u hu
    obtain ⟨x, _, hx⟩ := List.mem_flatMap.1 hu
    exact x.cells_one u hx
  · intro v' w' h1 h2 _
    refine h v' w' ?_ h2
    unfold Owns
    rw [List.length_append, List.flatMap_append]
    exact h1

/-- The one value of a new block of its own. -/
theorem lie_one (w : World) (x : Sc) : Lie (w.alloc (.cells #[.int .i64 x.k, .int .i64 x.n, .int .i64 x.d, .string x.t, .slice none 0 0] 24)) w.heap.size 0 [x] := by
  intro i y hy
  cases i with
  | zero =>
    have e : x = y := by simpa using hy
    subst e
    exact ⟨World.cell?_alloc_at _ _ _ _ rfl, World.cell?_alloc_at _ _ _ _ rfl, World.cell?_alloc_at _ _ _ _ rfl, World.cell?_alloc_at _ _ _ _ rfl, World.cell?_alloc_at _ _ _ _ rfl⟩
  | succ i => simp at hy

end Go.Proofs.YtlbhebmjdaaglaaGreatDoor
