/-
  The reference's values as the thin package's, matrices among them: of, all.
-/
import Derived.Test.YtpcfmkongpmmmaaGreatDoorVt
import Derived.Test.YtpcfmkongpmmmaaGreatDoorI
namespace Go.Proofs.YtpcfmkongpmmmaaGreatDoor
set_option linter.unusedSimpArgs false
set_option linter.unusedVariables false
open Go Go.RowKit
set_option maxRecDepth 100000

/-- A value of the thin package as the machine has it. -/
structure Im where
  k : Int
  f : Nat
  t : ByteArray
  ra : Option Addr
  rl : Nat
  rc : Nat

def Im.cells (x : Im) : List Value := [.int .i64 x.k, .float .f64 x.f, .string x.t, .slice x.ra x.rl x.rc]
abbrev Im.val (x : Im) : Value := .agg #[.int .i64 x.k, .float .f64 x.f, .string x.t, .slice x.ra x.rl x.rc]
theorem Im.cells_len (x : Im) : x.cells.length = 4 := rfl
theorem Im.cells_one (x : Im) : ∀ u ∈ x.cells, u.oneCell' = true := by
  intro u hu
  simp only [Im.cells, List.mem_cons, List.mem_nil_iff, or_false] at hu
  rcases hu with rfl | rfl | rfl | rfl <;> rfl
abbrev Iv.im (x : Iv) : Im := ⟨x.k, x.f, x.t, none, 0, 0⟩

/-- How an argument lies. -/
def ViR (L H : Nat) (w : World) (p : Im × Vt Iv) : Prop :=
  match p.2 with
  | .sc x => p.1 = x.im
  | .mat rows => rows ≠ [] ∧ rows.flatten.length ≤ 1000 ∧
      ∃ b c, p.1 = ⟨5, 0, ⟨#[]⟩, some ⟨b, 0, none⟩, rows.length, c⟩ ∧ L ≤ b ∧ b < H ∧ MLie Iv.cells 4 L H w b 0 rows

def viCells (p : Im × Vt Iv) : List Value := p.1.cells
theorem viCells_len (p : Im × Vt Iv) : (viCells p).length = 4 := rfl
theorem viCells_one (p : Im × Vt Iv) : ∀ u ∈ viCells p, u.oneCell' = true := p.1.cells_one

theorem viR_hangs : Hangs ViR := fun L H w w' p h hk => by
  obtain ⟨m, y⟩ := p
  cases y with
  | sc x => exact h
  | mat rows =>
    obtain ⟨h1, h2, b, c, h4, h5, h6, h7⟩ := h
    exact ⟨h1, h2, b, c, h4, h5, h6, h7.keep h5 h6 hk⟩

/-- The values ys lie in block b from cell o on. -/
def ArgsIv (w : World) (b o : Nat) (ys : List (Im × Vt Iv)) : Prop := GLie viCells 4 w b o ys ∧ ∀ (i : Nat) (y : Im × Vt Iv), ys[i]? = some y → ∃ L H, H ≤ w.heap.size ∧ ViR L H w y

theorem ArgsIv.ext {w w' : World} {b o : Nat} {ys : List (Im × Vt Iv)} (h : ArgsIv w b o ys) (hb : Ext w w') : ArgsIv w' b o ys :=
  ⟨h.1.ext hb, fun i y hi => by
    obtain ⟨L, H, h1, h2⟩ := h.2 i y hi
    exact ⟨L, H, Nat.le_trans h1 hb.size, viR_hangs L H w w' y h2 fun k _ hk => hb.block k (by omega)⟩⟩

/-- The values of lists by a function of their single values. -/
def Vt.map {σ τ : Type} (g : σ → τ) : Vt σ → Vt τ
  | .sc x => .sc (g x)
  | .mat rows => .mat (rows.map (List.map g))

/-- What a list of values means. -/
abbrev vts {μ σ : Type} (ys : List (μ × Vt σ)) : List (Vt σ) := ys.map Prod.snd

theorem map_take_succ' {α β : Type} {xs : List α} {k : Nat} {x : α} (h : Hid (xs[k]? = some x)) (g : α → β) : (xs.take (k + 1)).map g = (xs.take k).map g ++ [g x] := by
  rw [take_succ_at h, List.map_append]; rfl

/-- Of each single value of an argument something holds. -/
def Vt.all {σ : Type} (P : σ → Prop) : Vt σ → Prop
  | .sc x => P x
  | .mat rows => ∀ row ∈ rows, ∀ x ∈ row, P x

theorem infoSlI : (Tryz.prog.info? 44).map (fun i => (i.zero, i.size, i.bytes)) = some (some (.slice none 0 0), 1, 24) := by kernel_rfl

end Go.Proofs.YtpcfmkongpmmmaaGreatDoor
