/-
  Arguments among which are matrices: how they lie, what Flat makes of them.
-/
import Derived.Test.YtpcfmkongpmmmaaGreatDoorMx
import Derived.Test.YtpcfmkongpmmmaaGreatDoorE
namespace Go.Proofs.YtpcfmkongpmmmaaGreatDoor
set_option linter.unusedSimpArgs false
set_option linter.unusedVariables false
open Go Go.RowKit
set_option maxRecDepth 100000

/-- A single value, or the rows of a matrix. -/
inductive Vt (σ : Type)
  | sc (x : σ)
  | mat (rows : List (List σ))

/-- The values of an argument, the rows one behind the other. -/
def Vt.flat {σ : Type} : Vt σ → List σ
  | .sc x => [x]
  | .mat rows => rows.flatten

def Mc.cells (x : Mc) : List Value := [.int .i64 x.k, .int .i64 x.n, .int .i64 x.d, .string x.t, .slice x.ra x.rl x.rc]
abbrev Mc.val (x : Mc) : Value := .agg #[.int .i64 x.k, .int .i64 x.n, .int .i64 x.d, .string x.t, .slice x.ra x.rl x.rc]
theorem Mc.cells_len (x : Mc) : x.cells.length = 5 := rfl
theorem Mc.cells_one (x : Mc) : ∀ u ∈ x.cells, u.oneCell' = true := by
  intro u hu
  simp only [Mc.cells, List.mem_cons, List.mem_nil_iff, or_false] at hu
  rcases hu with rfl | rfl | rfl | rfl | rfl <;> rfl

/-- A single value as the machine has it. -/
abbrev Sc.mc (x : Sc) : Mc := ⟨x.k, x.n, x.d, x.t, none, 0, 0⟩

/-- How an argument lies: a single value by itself; of a matrix the rows hang on it. -/
def VtR (L H : Nat) (w : World) (p : Mc × Vt Sc) : Prop :=
  match p.2 with
  | .sc x => p.1 = x.mc ∧ x.k ≠ 5
  | .mat rows => rows ≠ [] ∧ rows.flatten.length ≤ 1000 ∧ (∀ row ∈ rows, ∀ x ∈ row, x.k ≠ 5) ∧
      ∃ b c, p.1 = ⟨5, 0, 0, ⟨#[]⟩, some ⟨b, 0, none⟩, rows.length, c⟩ ∧ L ≤ b ∧ b < H ∧ MLie Sc.cells 5 L H w b 0 rows

def vtCells (p : Mc × Vt Sc) : List Value := p.1.cells
theorem vtCells_len (p : Mc × Vt Sc) : (vtCells p).length = 5 := rfl
theorem vtCells_one (p : Mc × Vt Sc) : ∀ u ∈ vtCells p, u.oneCell' = true := p.1.cells_one

theorem vtR_hangs : Hangs VtR := fun L H w w' p h hk => by
  obtain ⟨m, y⟩ := p
  cases y with
  | sc x => exact h
  | mat rows =>
    obtain ⟨h1, h2, h3, b, c, h4, h5, h6, h7⟩ := h
    exact ⟨h1, h2, h3, b, c, h4, h5, h6, h7.keep h5 h6 hk⟩

theorem VtR.sc {L H : Nat} {w : World} (x : Sc) (h : x.k ≠ 5) : VtR L H w (x.mc, .sc x) := ⟨rfl, h⟩

/-- The arguments ys lie in block b from cell o on. -/
def ArgsIn (w : World) (b o : Nat) (ys : List (Mc × Vt Sc)) : Prop := GLie vtCells 5 w b o ys ∧ ∀ (i : Nat) (y : Mc × Vt Sc), ys[i]? = some y → ∃ L H, H ≤ w.heap.size ∧ VtR L H w y

theorem ArgsIn.ext {w w' : World} {b o : Nat} {ys : List (Mc × Vt Sc)} (h : ArgsIn w b o ys) (hb : Ext w w') : ArgsIn w' b o ys :=
  ⟨h.1.ext hb, fun i y hi => by
    obtain ⟨L, H, h1, h2⟩ := h.2 i y hi
    exact ⟨L, H, Nat.le_trans h1 hb.size, vtR_hangs L H w w' y h2 fun k _ hk => hb.block k (by omega)⟩⟩

theorem ArgsIn.at5 {w : World} {b o : Nat} {ys : List (Mc × Vt Sc)} (h : ArgsIn w b o ys) {i : Nat} {y : Mc × Vt Sc} (hi : ys[i]? = some y) : At5m w b (o + i * 5) y.1 :=
  ⟨h.1 i y hi 0 _ rfl, h.1 i y hi 1 _ rfl, h.1 i y hi 2 _ rfl, h.1 i y hi 3 _ rfl, h.1 i y hi 4 _ rfl⟩

theorem Lie.of_glie {w : World} {b o : Nat} {xs : List Sc} (h : GLie Sc.cells 5 w b o xs) : Lie w b o xs := fun i x hx =>
  ⟨h i x hx 0 _ rfl, h i x hx 1 _ rfl, h i x hx 2 _ rfl, h i x hx 3 _ rfl, h i x hx 4 _ rfl⟩

theorem len_le_flatten {α : Type} {rows : List (List α)} {row : List α} (h : row ∈ rows) : row.length ≤ rows.flatten.length := by
  induction rows with
  | nil => simp at h
  | cons r rs ih =>
    rw [List.flatten_cons, List.length_append]
    rcases List.mem_cons.1 h with rfl | h
    · omega
    · have := ih h; omega

theorem rows_le_flatten {α : Type} {rows : List (List α)} (h : ∀ row ∈ rows, row ≠ []) : rows.length ≤ rows.flatten.length := by
  induction rows with
  | nil => simp
  | cons r rs ih =>
    rw [List.flatten_cons, List.length_append, List.length_cons]
    have h1 := ih fun row hr => h row (List.mem_cons_of_mem _ hr)
    have h2 := List.length_pos_iff.2 (h r (List.mem_cons_self ..))
    omega

/-- What Flat, and its like, wants of an argument. -/
theorem VtR.rows {L H : Nat} {w : World} {m : Mc} {y : Vt Sc} (h : VtR L H w (m, y)) (hH : H ≤ w.heap.size) : ∃ rows, RowsOk w m rows ∧ outOf (m, rows) = y.flat := by
  cases y with
  | sc x =>
    obtain ⟨rfl, h5⟩ := h
    exact ⟨[], RowsOk.scalar w x h5, if_neg h5⟩
  | mat rows =>
    obtain ⟨h1, h2, h3, b, c, h4, h5, h6, h7⟩ := h
    have h4' : m = ⟨5, 0, 0, ⟨#[]⟩, some ⟨b, 0, none⟩, rows.length, c⟩ := h4
    subst h4'
    refine ⟨rows, ⟨fun hn => absurd rfl hn, fun _ => ⟨rfl, ?_, fun i row hi => ?_⟩⟩, if_pos rfl⟩
    · have := rows_le_flatten (rows := rows) (fun row hr => by
        obtain ⟨i, hi⟩ := List.getElem?_of_mem hr
        exact (h7 i row hi).1)
      omega
    · obtain ⟨q1, g, c', q2, q3, q4, q5⟩ := h7 i row hi
      have hm := List.mem_of_getElem? hi
      exact ⟨q1, b, 0, _, _, _, rfl, q2, fun w' hw' => flat_scalars row g 0 c' w' (by have := len_le_flatten hm; omega) (Lie.ext (Lie.of_glie q5) hw') (h3 row hm)⟩

/-- Lists by their places. -/
theorem list_of {α β : Type} (p : α → β → Prop) : ∀ ys : List α, (∀ y ∈ ys, ∃ x, p y x) → ∃ zs : List β, zs.length = ys.length ∧ ∀ (i : Nat) (y : α) (z : β), ys[i]? = some y → zs[i]? = some z → p y z
  | [], _ => ⟨[], rfl, fun i y z h => by simp at h⟩
  | y :: ys, h => by
    obtain ⟨x, hx⟩ := h y (List.mem_cons_self ..)
    obtain ⟨zs, h1, h2⟩ := list_of p ys fun y' hy => h y' (List.mem_cons_of_mem _ hy)
    refine ⟨x :: zs, by simp [h1], fun i y' z hy hz => ?_⟩
    cases i with
    | zero =>
      simp only [List.getElem?_cons_zero, Option.some.injEq] at hy hz
      subst hy hz; exact hx
    | succ i =>
      simp only [List.getElem?_cons_succ] at hy hz
      exact h2 i y' z hy hz

theorem flatMap_at {α β γ : Type} {f : α → List γ} {g : β → List γ} : ∀ (ys : List α) (zs : List β), zs.length = ys.length → (∀ (i : Nat) (y : α) (z : β), ys[i]? = some y → zs[i]? = some z → g z = f y) → zs.flatMap g = ys.flatMap f
  | [], [], _, _ => rfl
  | [], _ :: _, h, _ => by simp at h
  | _ :: _, [], h, _ => by simp at h
  | y :: ys, z :: zs, h, hg => by
    rw [List.flatMap_cons, List.flatMap_cons, hg 0 y z rfl rfl, flatMap_at ys zs (by simpa using h) fun i y' z' hy hz => hg (i + 1) y' z' (by simpa using hy) (by simpa using hz)]

abbrev flatOf (ys : List (Mc × Vt Sc)) : List Sc := ys.flatMap fun y => y.2.flat

/-- Flat of arguments. -/
theorem flat_vt (ys : List (Mc × Vt Sc)) (b o c : Nat) (w : World) (hl : ys.length ≤ 1000000000) (hx : ArgsIn w b o ys) (hN : (flatOf ys).length ≤ 100000000000) :
    Calls Tryz.prog 22 #[.slice (some ⟨b, o, none⟩) ys.length c] w (FlatGives w (flatOf ys)) := by
  obtain ⟨zs, hz1, hz2⟩ := list_of (fun (y : Mc × Vt Sc) (z : Mc × List (List Sc)) => z.1 = y.1 ∧ RowsOk w z.1 z.2 ∧ outOf z = y.2.flat) ys (fun y hy => by
    obtain ⟨i, hi⟩ := List.getElem?_of_mem hy
    obtain ⟨L, H, h1, h2⟩ := hx.2 i y hi
    obtain ⟨rows, h3, h4⟩ := VtR.rows (m := y.1) (y := y.2) h2 h1
    exact ⟨(y.1, rows), rfl, h3, h4⟩)
  have he : zs.flatMap outOf = flatOf ys := flatMap_at ys zs hz1 fun i y z hy hz => (hz2 i y z hy hz).2.2
  have h := flat_gen zs b o c w (by rw [hz1]; exact hl) (fun i z hz => by
    have hlt : i < ys.length := by
      rw [← hz1]
      apply Classical.byContradiction; intro hn
      rw [List.getElem?_eq_none (by omega)] at hz; cases hz
    obtain ⟨q1, q2, _⟩ := hz2 i ys[i] z (List.getElem?_eq_getElem hlt) hz
    have h5 := hx.at5 (List.getElem?_eq_getElem hlt)
    rw [← q1] at h5
    exact ⟨h5, q2⟩) (by rw [he]; exact hN)
  rwa [he, hz1] at h

/-- The arguments as one row of a matrix. -/
theorem rows_vt (w : World) (ys : List (Mc × Vt Sc)) (b o c g : Nat) (rc : Nat) (hx : ArgsIn w b o ys) (hne : flatOf ys ≠ []) (hl : ys.length ≤ 1000000000) (hN : (flatOf ys).length ≤ 100000000000)
    (hg : w.cell? ⟨g, 0, none⟩ = some (.slice (some ⟨b, o, none⟩) ys.length c)) : RowsOk w ⟨5, 0, 0, ⟨#[]⟩, some ⟨g, 0, none⟩, 1, rc⟩ [flatOf ys] := by
  refine ⟨fun h => absurd rfl h, fun _ => ⟨rfl, by simp, fun i row hi => ?_⟩⟩
  cases i with
  | zero =>
    have e : flatOf ys = row := by simpa using hi
    subst e
    exact ⟨hne, g, 0, some ⟨b, o, none⟩, ys.length, c, rfl, hg, fun w' hw' => flat_vt ys b o c w' hl (hx.ext hw') hN⟩
  | succ i => simp at hi

/-- Single values as arguments. -/
theorem ArgsIn.of_lie {w : World} {b o : Nat} {xs : List Sc} (h : Lie w b o xs) (hk : ∀ x ∈ xs, x.k ≠ 5) : ArgsIn w b o (xs.map fun x => (x.mc, Vt.sc x)) := by
  refine ⟨fun i y hi j u hu => ?_, fun i y hi => ?_⟩
  · rw [List.getElem?_map] at hi
    cases hx : xs[i]? with
    | none => rw [hx] at hi; cases hi
    | some x =>
      rw [hx] at hi
      have e : (x.mc, Vt.sc x) = y := by simpa using hi
      subst e
      obtain ⟨h0, h1, h2, h3, h4⟩ := h i x hx
      have hj : j < 5 := by
        rw [← vtCells_len (x.mc, Vt.sc x)]
        apply Classical.byContradiction; intro hn
        rw [List.getElem?_eq_none (by omega)] at hu; cases hu
      rcases (show j = 0 ∨ j = 1 ∨ j = 2 ∨ j = 3 ∨ j = 4 by omega) with e | e | e | e | e <;> rw [e] at hu ⊢ <;> simp only [vtCells, Mc.cells, List.getElem?_cons_zero, List.getElem?_cons_succ, Option.some.injEq] at hu <;> subst hu <;> assumption
  · rw [List.getElem?_map] at hi
    cases hx : xs[i]? with
    | none => rw [hx] at hi; cases hi
    | some x =>
      rw [hx] at hi
      have e : (x.mc, Vt.sc x) = y := by simpa using hi
      subst e
      exact ⟨0, 0, Nat.zero_le _, VtR.sc x (hk x (List.mem_of_getElem? hx))⟩
end Go.Proofs.YtpcfmkongpmmmaaGreatDoor
