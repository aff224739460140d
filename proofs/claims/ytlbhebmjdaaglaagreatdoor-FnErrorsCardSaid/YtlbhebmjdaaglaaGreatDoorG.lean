/-
  Lists in memory whose elements are structs of several cells, in general.
-/
import Derived.Test.YtlbhebmjdaaglaaGreatDoorA
namespace Go.Proofs.YtlbhebmjdaaglaaGreatDoor
set_option linter.unusedSimpArgs false
set_option linter.unusedVariables false
open Go Go.RowKit

/-- The elements xs lie in block b from cell o on, each in z cells. -/
def GLie {α : Type} (cells : α → List Value) (z : Nat) (w : World) (b o : Nat) (xs : List α) : Prop :=
  ∀ i x, xs[i]? = some x → ∀ j u, (cells x)[j]? = some u → w.cell? ⟨b, o + i * z + j, none⟩ = some u

theorem GLie.ext {α : Type} {cells : α → List Value} {z : Nat} {w w' : World} {b o : Nat} {xs : List α} (h : GLie cells z w b o xs) (hb : Ext w w') : GLie cells z w' b o xs :=
  fun i x hx j u hu => hb.get (h i x hx j u hu)

def GOwns {α : Type} (cells : α → List Value) (z : Nat) (ty : TypeId) (w : World) (B : Nat) (v : Value) (xs : List α) : Prop := w.ownsRow B ty z v xs.length (xs.flatMap cells)

section
variable {α : Type} {cells : α → List Value} {z : Nat} {ty : TypeId}

theorem GOwns.nil (w : World) (B : Nat) : GOwns cells z ty w B (.slice none 0 0) [] := ⟨by simp, Or.inl ⟨rfl, rfl⟩⟩

theorem GOwns.lie (hl : ∀ x, (cells x).length = z) {w : World} {B : Nat} {v : Value} {xs : List α} (h : GOwns cells z ty w B v xs) (hne : xs ≠ []) :
    ∃ g cap, v = .slice (some ⟨g, 0, none⟩) xs.length cap ∧ B ≤ g ∧ GLie cells z w g 0 xs := by
  obtain ⟨_, h⟩ := h
  rcases h with ⟨_, h0⟩ | ⟨g, cap, cur, hv, hg, hh, hn, hm, hc, ht⟩
  · exact absurd (List.eq_nil_of_length_eq_zero h0) hne
  · refine ⟨g, cap, hv, hg, fun i x hx j u hu => ?_⟩
    have hi : i < xs.length := by
      apply Classical.byContradiction
      intro hn
      rw [List.getElem?_eq_none (by omega)] at hx
      cases hx
    have hj : j < z := by
      rw [← hl x]
      apply Classical.byContradiction
      intro hn
      rw [List.getElem?_eq_none (by omega)] at hu
      cases hu
    have hlt : i * z + j < xs.length * z := by
      have h1 : (i + 1) * z ≤ xs.length * z := Nat.mul_le_mul_right z hi
      rw [Nat.succ_mul] at h1; omega
    rw [cell_of_row hh, Nat.zero_add, ← hu, ← flat_at hl xs i j x hx hj, ← ht, List.getElem?_take, if_pos hlt, Array.getElem?_toList]

theorem GOwns.below {w : World} {B : Nat} {v : Value} {xs : List α} (h : GOwns cells z ty w B v xs) : ∀ k, v.ownBlock = some k → B ≤ k := by
  intro k hk
  obtain ⟨_, ⟨h, _⟩ | ⟨g, cap, cur, hv, hg, _⟩⟩ := h
  · rw [h] at hk; cases hk
  · rw [hv] at hk; cases hk; exact hg

theorem GOwns.alloc {w : World} {B : Nat} {v : Value} {xs : List α} (h : GOwns cells z ty w B v xs) (o : Obj) : GOwns cells z ty (w.alloc o) B v xs := World.ownsRow.alloc h o

theorem GOwns.ext {w w' : World} {B : Nat} {v : Value} {xs : List α} (h : GOwns cells z ty w B v xs) (hb : Ext w w') : GOwns cells z ty w' B v xs := by
  obtain ⟨hl, h⟩ := h
  refine ⟨hl, ?_⟩
  rcases h with h | ⟨g, cap, cur, hv, hg, hh, r⟩
  · exact Or.inl h
  · refine Or.inr ⟨g, cap, cur, hv, hg, ?_, r⟩
    rw [hb.block g (by
      apply Classical.byContradiction; intro hn
      rw [Array.getElem?_eq_none (by omega)] at hh; cases hh)]
    exact hh

theorem GOwns.setBelow {w : World} {B : Nat} {v : Value} {xs : List α} (h : GOwns cells z ty w B v xs) {a : Addr} (ha : a.block < B) (u : Value) : GOwns cells z ty (w.setCell a u) B v xs := ownsRow_setCell_below h ha u

theorem GOwns.mono {w : World} {B B' : Nat} {v : Value} {xs : List α} (h : GOwns cells z ty w B v xs) (hB : B' ≤ B) : GOwns cells z ty w B' v xs := by
  obtain ⟨hl, h⟩ := h
  refine ⟨hl, ?_⟩
  rcases h with h | ⟨g, cap, cur, hv, hg, r⟩
  · exact Or.inl h
  · exact Or.inr ⟨g, cap, cur, hv, Nat.le_trans hB hg, r⟩

theorem GLie.news (hz : 0 < z) (hl : ∀ x, (cells x).length = z) {w : World} {b : Nat} {o : Nat} {ys : List α} (hy : GLie cells z w b o ys) : ∀ j u, (ys.flatMap cells)[j]? = some u → w.cell? ((⟨b, o, none⟩ : Addr).add j) = some u := by
  intro j u hj
  have hlt : j < ys.length * z := by
    rw [← flat_len hl ys]
    apply Classical.byContradiction; intro hn
    rw [List.getElem?_eq_none (by omega)] at hj; cases hj
  have hq : j / z < ys.length := Nat.div_lt_of_lt_mul (by rw [Nat.mul_comm]; exact hlt)
  have hjz : j / z * z + j % z = j := Nat.div_add_mod' j z
  obtain ⟨x, hx⟩ : ∃ x, ys[j / z]? = some x := ⟨ys[j / z], List.getElem?_eq_getElem hq⟩
  have hadd : ∀ n, (⟨b, o, none⟩ : Addr).add n = ⟨b, o + n, none⟩ := by
    intro n; unfold Addr.add; by_cases h0 : n = 0 <;> simp [h0]
  rw [hadd]
  rw [← hjz, flat_at hl ys (j / z) (j % z) x hx (Nat.mod_lt _ hz)] at hj
  have := hy (j / z) x hx (j % z) u hj
  rwa [Nat.add_assoc, hjz] at this

/-- append of elements that lie somewhere to a slice of the call's own. -/
theorem gappend (hz : 0 < z) (hl : ∀ x, (cells x).length = z) (hone : ∀ x, ∀ u ∈ cells x, u.oneCell' = true) {st : TypeId} {zero : Value} {bytes : Nat}
    (hinfo : (Tryz.prog.info? ty).map (fun i => (i.zero, i.size, i.bytes)) = some (some zero, z, bytes)) (hzs : zero.cells.size = z) (hst : Tryz.prog.underlying st = some (.slice ty)) (hby : bytes ≤ 100)
    {ops : Array Oper} {rest : List Oper} {o : Oper} {a : Act} {Q : Exit → Act → World → Prop} (hgd : o.guard = none) (s x : Operand) {w : World}
    (ho : o.op = .call { callee := .builtin .append, args := #[s, x], argTypes := #[st, st] })
    (B : Nat) (v : Value) (xs : List α) (hs : a.eval s = v) (hown : GOwns cells z ty w B v xs) (b bo c : Nat) (ys : List α) (hx : a.eval x = .slice (some ⟨b, bo, none⟩) ys.length c)
    (hy : GLie cells z w b bo ys) (hlen : xs.length + ys.length ≤ 1000000000000) (hB : B ≤ w.heap.size)
    (h : ∀ v' w', GOwns cells z ty w' B v' (xs ++ ys) → w.grownBy w' v.ownBlock → wpList Tryz.prog ops Q rest (a.put o.dst v') w') : wpList Tryz.prog ops Q (o :: rest) a w := by
  obtain ⟨i0, hi, hz0, hz1, hz2⟩ := info_parts hinfo
  have hbb : (xs.length + ys.length) * bytes ≤ 140737488355328 := by
    have := Nat.mul_le_mul hlen hby; omega
  refine wpList_append_own w hgd s x st ho B ty i0 _ z bytes hst hi hz0 hz1 hz2 hzs hz v xs.length (xs.flatMap cells) hs hown
    ⟨b, bo, none⟩ ys.length c (ys.flatMap cells) hx (flat_len hl ys) (hy.news hz hl) ?_ (by unfold maxLen; omega) hbb hB ?_
  · intro u hu
    obtain ⟨x, _, hx⟩ := List.mem_flatMap.1 hu
    exact hone x u hx
  · intro v' w' h1 h2 _
    refine h v' w' ?_ h2
    unfold GOwns
    rw [List.length_append, List.flatMap_append]
    exact h1

/-- The one element of a new block of its own. -/
theorem glie_one (w : World) (x : α) (t : TypeId) (cs : Array Value) (hcs : cs.toList = cells x) : GLie cells z (w.alloc (.cells cs t)) w.heap.size 0 [x] := by
  intro i y hy j u hu
  cases i with
  | zero =>
    have e : x = y := by simpa using hy
    subst e
    have hh : cs[j]? = (cells x)[j]? := by rw [← hcs, Array.getElem?_toList]
    rw [World.cell?_alloc_at _ _ _ _ rfl]
    simp only [Nat.zero_mul, Nat.zero_add]
    rw [hh]
    exact hu
  | succ i => simp at hy
end

/-- A single value of the thin package (impl.Val), or of the package (excelize.Arg): kind, number, text; its Rows are nil. -/
structure Iv where
  k : Int
  f : Nat
  t : ByteArray

def Iv.cells (x : Iv) : List Value := [.int .i64 x.k, .float .f64 x.f, .string x.t, .slice none 0 0]
abbrev Iv.val (x : Iv) : Value := .agg #[.int .i64 x.k, .float .f64 x.f, .string x.t, .slice none 0 0]
theorem Iv.cells_len (x : Iv) : x.cells.length = 4 := rfl
theorem Iv.cells_one (x : Iv) : ∀ u ∈ x.cells, u.oneCell' = true := by
  intro u hu
  simp only [Iv.cells, List.mem_cons, List.mem_nil_iff, or_false] at hu
  rcases hu with rfl | rfl | rfl | rfl <;> rfl

abbrev LieI (w : World) (b o : Nat) (xs : List Iv) : Prop := GLie Iv.cells 4 w b o xs
abbrev OwnsI (ty : TypeId) (w : World) (B : Nat) (v : Value) (xs : List Iv) : Prop := GOwns Iv.cells 4 ty w B v xs

def At4 (w : World) (b o : Nat) (x : Iv) : Prop :=
  w.cell? ⟨b, o, none⟩ = some (.int .i64 x.k) ∧ w.cell? ⟨b, o + 1, none⟩ = some (.float .f64 x.f) ∧ w.cell? ⟨b, o + 2, none⟩ = some (.string x.t) ∧ w.cell? ⟨b, o + 3, none⟩ = some (.slice none 0 0)

theorem LieI.at {w : World} {b o : Nat} {xs : List Iv} (h : LieI w b o xs) {i : Nat} {x : Iv} (hx : xs[i]? = some x) : At4 w b (o + i * 4) x :=
  ⟨h i x hx 0 _ rfl, h i x hx 1 _ rfl, h i x hx 2 _ rfl, h i x hx 3 _ rfl⟩
theorem LieI.head {w : World} {b : Nat} {xs : List Iv} (h : LieI w b 0 xs) {i : Nat} {x : Iv} (hx : xs[i]? = some x) : At4 w b (i * 4) x := by
  have := LieI.at h hx
  rwa [Nat.zero_add] at this

theorem infoIVal : (Tryz.prog.info? 41).map (fun i => (i.zero, i.size, i.bytes)) = some (some (.agg #[.int .i64 0, .float .f64 0, .string ⟨#[]⟩, .slice none 0 0]), 4, 56) := by kernel_rfl
theorem infoArg : (Tryz.prog.info? 48).map (fun i => (i.zero, i.size, i.bytes)) = some (some (.agg #[.int .i64 0, .float .f64 0, .string ⟨#[]⟩, .slice none 0 0]), 4, 56) := by kernel_rfl
end Go.Proofs.YtlbhebmjdaaglaaGreatDoor
