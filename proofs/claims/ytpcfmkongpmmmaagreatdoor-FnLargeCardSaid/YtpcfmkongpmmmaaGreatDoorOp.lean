/-
  The cells of a law, opened: a list of Item as an argument of a law is a list of cells at an address.
-/
import Derived.Test.YtpcfmkongpmmmaaGreatDoorTb
import Derived.Deep.Slices
import Derived.OpenShut
namespace Go.Proofs.YtpcfmkongpmmmaaGreatDoor
set_option linter.unusedSimpArgs false
set_option linter.unusedVariables false
open Go Go.RowKit Go.ChangeShapes Go.WideShapes
set_option maxRecDepth 100000

def fieldsOf (t : Option TypeDesc) : Array Field := match t with | some (.struct fs) => fs | _ => #[]

theorem under_items : Tryz.prog.underlying 22 = some (.slice 34) := by kernel_rfl
theorem under_item : Tryz.prog.underlying 34 = some (.struct (fieldsOf (Tryz.prog.underlying 34))) := by kernel_rfl
theorem item_cells : Tryz.prog.cellsOf 34 = 3 := by kernel_rfl
theorem item_size : (fieldsOf (Tryz.prog.underlying 34)).size = 3 := by kernel_rfl

/-- One field of a cell: one memory cell. -/
def fieldAt (i : Nat) (k : TypeDesc) (f : Field) : Prop := (fieldsOf (Tryz.prog.underlying 34))[i]? = some f ∧ f.offset = i ∧ Tryz.prog.underlying f.type = some k ∧ Tryz.prog.cellsOf f.type = 1

theorem field_0 : ∃ f, fieldAt 0 (.int .i64) f := ⟨(fieldsOf (Tryz.prog.underlying 34)).getD 0 default, by kernel_rfl, by kernel_rfl, by kernel_rfl, by kernel_rfl⟩
theorem field_1 : ∃ f, fieldAt 1 (.int .i64) f := ⟨(fieldsOf (Tryz.prog.underlying 34)).getD 1 default, by kernel_rfl, by kernel_rfl, by kernel_rfl, by kernel_rfl⟩
theorem field_2 : ∃ f, fieldAt 2 .string f := ⟨(fieldsOf (Tryz.prog.underlying 34)).getD 2 default, by kernel_rfl, by kernel_rfl, by kernel_rfl, by kernel_rfl⟩

instance : Inhabited It := ⟨⟨0, 0, ⟨#[]⟩⟩⟩

/-- A list of cells that came in. -/
theorem open_items {H : Type} {enc : TypeId × Value → H} {W : World} {base : Nat} {v : Value} {d : DataW H} {p : List MemPlace} (hok : Value.okWide Tryz.prog W .any base 22 v)
    (h : DataW.Trod enc Tryz.prog W 0 (fun _ => true) true 22 v d p) :
    ∃ (xs : List It) (a : Option Addr) (c : Nat), v = .slice a xs.length c ∧ ItAt W a xs ∧ xs.length ≤ c ∧ c ≤ maxLen := by
  obtain ⟨a0, len0, cap0, rfl⟩ := okWide_slice under_items hok
  obtain ⟨fuel, hf⟩ := h
  rcases Go.Deep.open_slice under_items hf with ⟨hcs, _⟩ | ⟨a, len, cap, m, n, D, Pl, hcs, hb, hl, hm, hmm, _, hx⟩
  · simp [Value.cells] at hcs
    obtain ⟨rfl, rfl, rfl⟩ := hcs
    exact ⟨[], none, 0, rfl, fun i x hx => by simp at hx, Nat.le_refl _, Nat.zero_le _⟩
  simp [Value.cells] at hcs
  obtain ⟨rfl, rfl, rfl⟩ := hcs
  have hmc : m = cap0 := by simpa using hmm
  clear hmm
  subst hmc
  have each : ∀ i, i < len0 → ∃ x : It, x.ok ∧ W.cell? (a.add (i * 3)) = some (.int .i64 x.k) ∧ W.cell? (a.add (i * 3 + 1)) = some (.int .i64 x.n) ∧ W.cell? (a.add (i * 3 + 2)) = some (.string x.t) := by
    intro i hi
    obtain ⟨cs', h1, h2⟩ := hx i (by omega)
    rw [item_cells] at h1
    obtain ⟨_, hlen, hcell⟩ := World.cells?_some h1
    obtain ⟨xs, k, hk, hxy, _, hxl, hg⟩ := DataW.trod_struct under_item h2
    match cs', hlen with
    | [v0, v1, v2], _ =>
      obtain ⟨f0, F0, O0, U0, C0⟩ := field_0
      have g0 := hg 0 _ F0
      obtain ⟨f1, F1, O1, U1, C1⟩ := field_1
      have g1 := hg 1 _ F1
      obtain ⟨f2, F2, O2, U2, C2⟩ := field_2
      have g2 := hg 2 _ F2
      rw [item_size] at hxl
      have ex : ∀ j, j < 3 → ∃ y, xs[j]? = some y := fun j hj => ⟨_, List.getElem?_eq_getElem (by omega)⟩
      obtain ⟨y0, e0⟩ := ex 0 (by omega)
      obtain ⟨y1, e1⟩ := ex 1 (by omega)
      obtain ⟨y2, e2⟩ := ex 2 (by omega)
      rw [e0, O0, C0] at g0
      rw [e1, O1, C1] at g1
      rw [e2, O2, C2] at g2
      obtain ⟨k0, r0, _, _⟩ := DataW.trod_int U0 g0
      obtain ⟨k1, r1, _, w1⟩ := DataW.trod_int U1 g1
      obtain ⟨k2, r2, _, _⟩ := DataW.trod_string U2 g2
      simp at r0 r1 r2
      subst r0 r1 r2
      have c0 := hcell 0 (by omega)
      have c1 := hcell 1 (by omega)
      have c2 := hcell 2 (by omega)
      rw [Go.Deep.add_add] at c0 c1 c2
      refine ⟨⟨k0, k1, k2⟩, ?_, by simpa using c0, by simpa using c1, by simpa using c2⟩
      simpa [It.ok, Lit.wf, IntKind.min, IntKind.max, IntKind.signed, IntKind.bits] using w1
  obtain ⟨f, hfx⟩ := Go.Deep.choose_lt each
  refine ⟨(List.range len0).map f, some a, m, by simp, fun i x hx => ?_, by simpa using hl, hm⟩
  rw [List.getElem?_map] at hx
  by_cases hi : i < len0
  · rw [List.getElem?_range hi] at hx
    obtain rfl : f i = x := by simpa using hx
    obtain ⟨h0, h1, h2, h3⟩ := hfx i hi
    obtain ⟨b, off, spot⟩ := a
    obtain rfl : spot = none := by
      have hs := World.cell?_spot (hfx 0 (by omega)).2.1
      simpa [Addr.add] using hs
    simp only [add_plain] at h1 h2 h3
    exact ⟨h0, b, off, rfl, h1, by rw [Nat.add_assoc]; exact h2, by rw [Nat.add_assoc]; exact h3⟩
  · rw [List.getElem?_eq_none (by simpa using hi)] at hx
    cases hx
end Go.Proofs.YtpcfmkongpmmmaaGreatDoor
