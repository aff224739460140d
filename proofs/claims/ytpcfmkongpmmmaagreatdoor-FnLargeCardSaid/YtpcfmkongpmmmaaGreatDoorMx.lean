/-
  Lists in memory on whose elements more memory hangs; rows: slices of slices of structs.
-/
import Derived.Test.YtpcfmkongpmmmaaGreatDoorG
import Derived.Maps.AppendAt
namespace Go.Proofs.YtpcfmkongpmmmaaGreatDoor
set_option linter.unusedSimpArgs false
set_option linter.unusedVariables false
open Go Go.RowKit
set_option maxRecDepth 100000

theorem block_lt_heap {w : World} {m : Nat} {o : Obj} (hm : w.heap[m]? = some o) : m < w.heap.size := by
  apply Classical.byContradiction; intro hn
  rw [Array.getElem?_eq_none (by omega)] at hm; cases hm

section
variable {α : Type} {cells : α → List Value} {z : Nat} {ty : TypeId} {R : Nat → Nat → World → α → Prop}

/-- What hangs on an element lies in blocks from L to H, and stays while these do. -/
def Hangs (R : Nat → Nat → World → α → Prop) : Prop := ∀ L H w w' x, R L H w x → (∀ k, L ≤ k → k < H → w'.heap[k]? = w.heap[k]?) → R L H w' x

/-- The slice value v owns the elements xs, and what hangs on each lies apart from it. -/
structure AOwns {α : Type} (cells : α → List Value) (z : Nat) (ty : TypeId) (R : Nat → Nat → World → α → Prop) (w : World) (B : Nat) (v : Value) (xs : List α) : Prop where
  own : GOwns cells z ty w B v xs
  hang : ∀ (i : Nat) (x : α), xs[i]? = some x → ∃ L H, B ≤ L ∧ H ≤ w.heap.size ∧ (∀ g, v.ownBlock = some g → g < L ∨ H ≤ g) ∧ R L H w x

theorem AOwns.nil (w : World) (B : Nat) : AOwns cells z ty R w B (.slice none 0 0) [] := ⟨GOwns.nil _ _, fun i x h => by simp at h⟩

theorem AOwns.ext (hR : Hangs R) {w w' : World} {B : Nat} {v : Value} {xs : List α} (h : AOwns cells z ty R w B v xs) (hb : Ext w w') : AOwns cells z ty R w' B v xs := by
  refine ⟨h.own.ext hb, fun i x hi => ?_⟩
  obtain ⟨L, H, h1, h2, h3, h4⟩ := h.hang i x hi
  exact ⟨L, H, h1, Nat.le_trans h2 hb.size, h3, hR L H w w' x h4 fun k _ hk => hb.block k (by omega)⟩

theorem AOwns.alloc (hR : Hangs R) {w : World} {B : Nat} {v : Value} {xs : List α} (h : AOwns cells z ty R w B v xs) (o : Obj) : AOwns cells z ty R (w.alloc o) B v xs := h.ext hR ((Ext.rf _).al _)

theorem AOwns.mono {w : World} {B B' : Nat} {v : Value} {xs : List α} (h : AOwns cells z ty R w B v xs) (hB : B' ≤ B) : AOwns cells z ty R w B' v xs := by
  refine ⟨h.own.mono hB, fun i x hi => ?_⟩
  obtain ⟨L, H, h1, h2⟩ := h.hang i x hi
  exact ⟨L, H, Nat.le_trans hB h1, h2⟩

theorem AOwns.below {w : World} {B : Nat} {v : Value} {xs : List α} (h : AOwns cells z ty R w B v xs) : ∀ k, v.ownBlock = some k → B ≤ k := h.own.below

theorem AOwns.lt {w : World} {B : Nat} {v : Value} {xs : List α} (h : AOwns cells z ty R w B v xs) : ∀ k, v.ownBlock = some k → k < w.heap.size :=
  fun k hk => (World.ownsRow.lt h.own k hk).2

theorem AOwns.lie (hl : ∀ x, (cells x).length = z) {w : World} {B : Nat} {v : Value} {xs : List α} (h : AOwns cells z ty R w B v xs) (hne : xs ≠ []) :
    ∃ b c, v = .slice (some ⟨b, 0, none⟩) xs.length c ∧ B ≤ b ∧ b < w.heap.size ∧ GLie cells z w b 0 xs ∧ ∀ (i : Nat) (x : α), xs[i]? = some x → ∃ L H, B ≤ L ∧ H ≤ w.heap.size ∧ R L H w x := by
  obtain ⟨b, c, hv, hb, hlie⟩ := h.own.lie hl hne
  refine ⟨b, c, hv, hb, h.lt b (by rw [hv]; rfl), hlie, fun i x hi => ?_⟩
  obtain ⟨L, H, h1, h2, _, h4⟩ := h.hang i x hi
  exact ⟨L, H, h1, h2, h4⟩

/-- append of one element with what hangs on it. -/
theorem aappend (hR : Hangs R) (hz : 0 < z) (hl : ∀ x, (cells x).length = z) (hone : ∀ x, ∀ u ∈ cells x, u.oneCell' = true) {st : TypeId} {zero : Value} {bytes : Nat}
    (hinfo : (Tryz.prog.info? ty).map (fun i => (i.zero, i.size, i.bytes)) = some (some zero, z, bytes)) (hzs : zero.cells.size = z) (hst : Tryz.prog.underlying st = some (.slice ty)) (hby : bytes ≤ 200)
    {ops : Array Oper} {rest : List Oper} {o : Oper} {a : Act} {Q : Exit → Act → World → Prop} (hgd : o.guard = none) (s x : Operand) {w : World}
    (ho : o.op = .call { callee := .builtin .append, args := #[s, x], argTypes := #[st, st] })
    (B : Nat) (v : Value) (xs : List α) (hs : a.eval s = v) (hown : AOwns cells z ty R w B v xs) (b bo c : Nat) (y : α) (hx : a.eval x = .slice (some ⟨b, bo, none⟩) 1 c)
    (hy : GLie cells z w b bo [y]) (hlen : xs.length ≤ 100000000000) (hB : B ≤ w.heap.size)
    (L H : Nat) (hL : B ≤ L) (hH : H ≤ w.heap.size) (hv : ∀ g, v.ownBlock = some g → g < L ∨ H ≤ g) (hr : R L H w y)
    (h : ∀ v' w', AOwns cells z ty R w' B v' (xs ++ [y]) → w.grownBy w' v.ownBlock → wpList Tryz.prog ops Q rest (a.put o.dst v') w') : wpList Tryz.prog ops Q (o :: rest) a w := by
  obtain ⟨i0, hi, hz0, hz1, hz2⟩ := info_parts hinfo
  have hbb : (xs.length + 1) * bytes ≤ 140737488355328 := by
    have := Nat.mul_le_mul (show xs.length + 1 ≤ 100000000001 by omega) hby; omega
  refine wpList_append_own_at w hgd s x st ho B ty i0 _ z bytes hst hi hz0 hz1 hz2 hzs hz v xs.length (xs.flatMap cells) hs hown.own
    ⟨b, bo, none⟩ 1 c ([y].flatMap cells) hx (flat_len hl [y]) (hy.news hz hl) ?_ (by unfold maxLen; omega) hbb hB ?_
  · intro u hu
    obtain ⟨x, _, hx⟩ := List.mem_flatMap.1 hu
    exact hone x u hx
  · intro v' w' k1 k2 _ k4
    have hown' : GOwns cells z ty w' B v' (xs ++ [y]) := by
      unfold GOwns
      rw [List.length_append, List.flatMap_append]
      exact k1
    have keep : ∀ L H x, H ≤ w.heap.size → (∀ g, v.ownBlock = some g → g < L ∨ H ≤ g) → R L H w x → (∀ g, v'.ownBlock = some g → g < L ∨ H ≤ g) ∧ R L H w' x := by
      intro L H x hH hv hr
      refine ⟨?_, hR L H w w' x hr fun k hk1 hk2 => k2.block k (by omega) fun e => ?_⟩
      · rcases k4 with k4 | k4
        · rw [k4]; exact hv
        · intro g hg
          rw [k4] at hg
          cases hg
          right; exact hH
      · rcases hv k e.symm with h1 | h1 <;> omega
    refine h v' w' ⟨hown', fun i x' hi' => ?_⟩ k2
    rcases Nat.lt_or_ge i xs.length with hlt | hge
    · rw [List.getElem?_append_left hlt] at hi'
      obtain ⟨L', H', q1, q2, q3, q4⟩ := hown.hang i x' hi'
      obtain ⟨r1, r2⟩ := keep L' H' x' q2 q3 q4
      exact ⟨L', H', q1, Nat.le_trans q2 k2.size, r1, r2⟩
    · rw [List.getElem?_append_right hge] at hi'
      have hi0 : i - xs.length = 0 := by
        apply Classical.byContradiction
        intro hn
        rw [List.getElem?_eq_none (by simp; omega)] at hi'; cases hi'
      rw [hi0] at hi'
      have e : y = x' := by simpa using hi'
      subst e
      obtain ⟨r1, r2⟩ := keep L H y hH hv hr
      exact ⟨L, H, hL, Nat.le_trans hH k2.size, r1, r2⟩
end

section
variable {α : Type} {cells : α → List Value} {z : Nat}

/-- A slice value with the row that it is. -/
def slCells (p : Value × List α) : List Value := [p.1]
theorem slCells_len (p : Value × List α) : (slCells p).length = 1 := rfl

/-- A row that hangs on its slice (none is empty). -/
def RowR (cells : α → List Value) (z : Nat) (L H : Nat) (w : World) (p : Value × List α) : Prop :=
  p.2 ≠ [] ∧ ∃ g c, p.1 = .slice (some ⟨g, 0, none⟩) p.2.length c ∧ L ≤ g ∧ g < H ∧ GLie cells z w g 0 p.2

theorem GLie.blk {w w' : World} {b o : Nat} {xs : List α} (h : GLie cells z w b o xs) (hb : w'.heap[b]? = w.heap[b]?) : GLie cells z w' b o xs := fun i x hx j u hu => by
  rw [World.cell?_of_block (a := ⟨b, o + i * z + j, none⟩) hb]; exact h i x hx j u hu

theorem rowR_hangs : Hangs (RowR cells z) := fun L H w w' p h hk => by
  obtain ⟨h1, g, c, h2, h3, h4, h5⟩ := h
  exact ⟨h1, g, c, h2, h3, h4, h5.blk (hk g h3 h4)⟩

theorem slCells_one (p : Value × List α) (h : p.1.oneCell' = true) : ∀ u ∈ slCells p, u.oneCell' = true := by
  intro u hu
  have e : u = p.1 := by simpa [slCells] using hu
  subst e; exact h

/-- From cell o of block b on lie slices, each of a row (no row is empty), in blocks from L to H. -/
def MLie (cells : α → List Value) (z : Nat) (L H : Nat) (w : World) (b o : Nat) (rows : List (List α)) : Prop :=
  ∀ i row, rows[i]? = some row → row ≠ [] ∧ ∃ g c, w.cell? ⟨b, o + i, none⟩ = some (.slice (some ⟨g, 0, none⟩) row.length c) ∧ L ≤ g ∧ g < H ∧ GLie cells z w g 0 row

theorem MLie.ext {L H : Nat} {w w' : World} {b o : Nat} {rows : List (List α)} (h : MLie cells z L H w b o rows) (hb : Ext w w') : MLie cells z L H w' b o rows := fun i row hi => by
  obtain ⟨h1, g, c, h2, h3, h4, h5⟩ := h i row hi
  exact ⟨h1, g, c, hb.get h2, h3, h4, h5.ext hb⟩

theorem MLie.keep {L H : Nat} {w w' : World} {b o : Nat} {rows : List (List α)} (h : MLie cells z L H w b o rows) (h1 : L ≤ b) (h2 : b < H) (hk : ∀ k, L ≤ k → k < H → w'.heap[k]? = w.heap[k]?) : MLie cells z L H w' b o rows := fun i row hi => by
  obtain ⟨q1, g, c, q2, q3, q4, q5⟩ := h i row hi
  refine ⟨q1, g, c, ?_, q3, q4, q5.blk (hk g q3 q4)⟩
  rw [World.cell?_of_block (a := ⟨b, o + i, none⟩) (hk b h1 h2)]; exact q2

theorem MLie.mono {L H L' H' : Nat} {w : World} {b o : Nat} {rows : List (List α)} (h : MLie cells z L H w b o rows) (hL : L' ≤ L) (hH : H ≤ H') : MLie cells z L' H' w b o rows := fun i row hi => by
  obtain ⟨h1, g, c, h2, h3, h4, h5⟩ := h i row hi
  exact ⟨h1, g, c, h2, by omega, by omega, h5⟩

/-- The slice value v owns rows. -/
def MOwns (cells : α → List Value) (z : Nat) (ty2 : TypeId) (w : World) (B : Nat) (v : Value) (rows : List (List α)) : Prop :=
  ∃ ps : List (Value × List α), ps.map Prod.snd = rows ∧ (∀ p ∈ ps, p.1.oneCell' = true) ∧ AOwns slCells 1 ty2 (RowR cells z) w B v ps

variable {ty2 : TypeId}

theorem MOwns.nil (w : World) (B : Nat) : MOwns cells z ty2 w B (.slice none 0 0) [] := ⟨[], rfl, by simp, AOwns.nil _ _⟩

theorem MOwns.ext {w w' : World} {B : Nat} {v : Value} {rows : List (List α)} (h : MOwns cells z ty2 w B v rows) (hb : Ext w w') : MOwns cells z ty2 w' B v rows := by
  obtain ⟨ps, h1, h2, h3⟩ := h
  exact ⟨ps, h1, h2, h3.ext rowR_hangs hb⟩

theorem MOwns.alloc {w : World} {B : Nat} {v : Value} {rows : List (List α)} (h : MOwns cells z ty2 w B v rows) (o : Obj) : MOwns cells z ty2 (w.alloc o) B v rows := h.ext ((Ext.rf _).al _)

theorem MOwns.mono {w : World} {B B' : Nat} {v : Value} {rows : List (List α)} (h : MOwns cells z ty2 w B v rows) (hB : B' ≤ B) : MOwns cells z ty2 w B' v rows := by
  obtain ⟨ps, h1, h2, h3⟩ := h
  exact ⟨ps, h1, h2, h3.mono hB⟩

theorem MOwns.below {w : World} {B : Nat} {v : Value} {rows : List (List α)} (h : MOwns cells z ty2 w B v rows) : ∀ k, v.ownBlock = some k → B ≤ k := by
  obtain ⟨ps, _, _, h3⟩ := h
  exact h3.below

theorem MOwns.lt {w : World} {B : Nat} {v : Value} {rows : List (List α)} (h : MOwns cells z ty2 w B v rows) : ∀ k, v.ownBlock = some k → k < w.heap.size := by
  obtain ⟨ps, _, _, h3⟩ := h
  exact h3.lt

theorem MOwns.lie {w : World} {B : Nat} {v : Value} {rows : List (List α)} (h : MOwns cells z ty2 w B v rows) (hne : rows ≠ []) :
    ∃ b c, v = .slice (some ⟨b, 0, none⟩) rows.length c ∧ B ≤ b ∧ b < w.heap.size ∧ MLie cells z B w.heap.size w b 0 rows := by
  obtain ⟨ps, h1, h2, h3⟩ := h
  obtain ⟨b, c, hv, hb, hlt, hlie, hh⟩ := h3.lie slCells_len (by intro h0; subst h0; exact hne (by rw [← h1]; rfl))
  refine ⟨b, c, by rw [hv, ← h1, List.length_map], hb, hlt, fun i row hi => ?_⟩
  rw [← h1, List.getElem?_map] at hi
  cases hp : ps[i]? with
  | none => rw [hp] at hi; cases hi
  | some p =>
    rw [hp] at hi
    have e : p.2 = row := by simpa using hi
    subst e
    obtain ⟨L, H, q1, q2, q0, g, c', q3, q4, q5, q6⟩ := hh i p hp
    refine ⟨q0, g, c', ?_, by omega, by omega, q6⟩
    have := hlie i p hp 0 p.1 rfl
    rw [q3] at this
    simpa using this

/-- append of a row to rows. -/
theorem mappend {st : TypeId}
    (hinfo : (Tryz.prog.info? ty2).map (fun i => (i.zero, i.size, i.bytes)) = some (some (.slice none 0 0), 1, 24)) (hst : Tryz.prog.underlying st = some (.slice ty2))
    {ops : Array Oper} {rest : List Oper} {o : Oper} {a : Act} {Q : Exit → Act → World → Prop} (hgd : o.guard = none) (s x : Operand) {w : World}
    (ho : o.op = .call { callee := .builtin .append, args := #[s, x], argTypes := #[st, st] })
    (B : Nat) (v : Value) (rows : List (List α)) (hs : a.eval s = v) (hown : MOwns cells z ty2 w B v rows) (b bo c : Nat) (row : List α) (hx : a.eval x = .slice (some ⟨b, bo, none⟩) 1 c)
    (g rc : Nat) (hc : w.cell? ⟨b, bo, none⟩ = some (.slice (some ⟨g, 0, none⟩) row.length rc)) (hrow : GLie cells z w g 0 row) (hne : row ≠ []) (hg : B ≤ g) (hgl : g < w.heap.size) (hgv : v.ownBlock ≠ some g)
    (hlen : rows.length ≤ 100000000000) (hB : B ≤ w.heap.size)
    (h : ∀ v' w', MOwns cells z ty2 w' B v' (rows ++ [row]) → w.grownBy w' v.ownBlock → wpList Tryz.prog ops Q rest (a.put o.dst v') w') : wpList Tryz.prog ops Q (o :: rest) a w := by
  obtain ⟨ps, h1, h2, h3⟩ := hown
  obtain ⟨i0, hi, hz0, hz1, hz2⟩ := info_parts hinfo
  have hpl : ps.length = rows.length := by rw [← h1, List.length_map]
  refine wpList_append_own_at w hgd s x st ho B ty2 i0 _ 1 24 hst hi hz0 hz1 hz2 rfl (by decide) v ps.length (ps.flatMap slCells) hs h3.own
    ⟨b, bo, none⟩ 1 c [.slice (some ⟨g, 0, none⟩) row.length rc] hx rfl ?_ ?_ (by unfold maxLen; omega) (by omega) hB ?_
  · intro j u hj
    cases j with
    | zero =>
      simp only [List.getElem?_cons_zero, Option.some.injEq] at hj
      subst hj
      simpa [Addr.add] using hc
    | succ j => simp at hj
  · intro u hu
    have e : u = .slice (some ⟨g, 0, none⟩) row.length rc := by simpa using hu
    subst e; rfl
  · intro v' w' k1 k2 _ k4
    have hR : Hangs (RowR cells z) := rowR_hangs
    have hown' : GOwns (slCells (α := α)) 1 ty2 w' B v' (ps ++ [(.slice (some ⟨g, 0, none⟩) row.length rc, row)]) := by
      unfold GOwns
      rw [List.length_append, List.flatMap_append]
      exact k1
    have keep : ∀ L H p, H ≤ w.heap.size → (∀ g, v.ownBlock = some g → g < L ∨ H ≤ g) → RowR cells z L H w p → (∀ g, v'.ownBlock = some g → g < L ∨ H ≤ g) ∧ RowR cells z L H w' p := by
      intro L H x hH hv hr
      refine ⟨?_, hR L H w w' x hr fun k hk1 hk2 => k2.block k (by omega) fun e => ?_⟩
      · rcases k4 with k4 | k4
        · rw [k4]; exact hv
        · intro g hg
          rw [k4] at hg
          cases hg
          right; exact hH
      · rcases hv k e.symm with h1 | h1 <;> omega
    refine h v' w' ⟨ps ++ [(.slice (some ⟨g, 0, none⟩) row.length rc, row)], by rw [List.map_append, h1]; rfl, ?_, hown', fun i x' hi' => ?_⟩ k2
    · intro p hp
      rcases List.mem_append.1 hp with hp | hp
      · exact h2 p hp
      · have e : p = (.slice (some ⟨g, 0, none⟩) row.length rc, row) := by simpa using hp
        subst e; rfl
    · rcases Nat.lt_or_ge i ps.length with hlt | hge
      · rw [List.getElem?_append_left hlt] at hi'
        obtain ⟨L', H', q1, q2, q3, q4⟩ := h3.hang i x' hi'
        obtain ⟨r1, r2⟩ := keep L' H' x' q2 q3 q4
        exact ⟨L', H', q1, Nat.le_trans q2 k2.size, r1, r2⟩
      · rw [List.getElem?_append_right hge] at hi'
        have hi0 : i - ps.length = 0 := by
          apply Classical.byContradiction
          intro hn
          rw [List.getElem?_eq_none (by simp; omega)] at hi'; cases hi'
        rw [hi0] at hi'
        have e : (Value.slice (some ⟨g, 0, none⟩) row.length rc, row) = x' := by simpa using hi'
        subst e
        obtain ⟨r1, r2⟩ := keep g (g + 1) (.slice (some ⟨g, 0, none⟩) row.length rc, row) (by omega) (fun g' hg' => by
          have : g' ≠ g := fun e => hgv (by rw [hg', e])
          omega) ⟨hne, g, rc, rfl, Nat.le_refl _, Nat.lt_succ_self _, hrow⟩
        exact ⟨g, g + 1, hg, Nat.le_trans (by omega) k2.size, r1, r2⟩
end
end Go.Proofs.YtpcfmkongpmmmaaGreatDoor
