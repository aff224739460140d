/-
  with: a law's range and its single values, as arguments.
-/
import Derived.Test.YtpcfmkongpmmmaaGreatDoorTc
namespace Go.Proofs.YtpcfmkongpmmmaaGreatDoor
set_option linter.unusedSimpArgs false
set_option linter.unusedVariables false
open Go Go.RowKit
set_option maxRecDepth 100000

theorem GOwns.cap {α : Type} {cells : α → List Value} {z : Nat} {ty : TypeId} {w : World} {B : Nat} {a : Option Addr} {n c : Nat} {xs : List α} (h : GOwns cells z ty w B (.slice a n c) xs) : xs.length ≤ c := by
  obtain ⟨_, ⟨h1, h2⟩ | ⟨g, cap, cur, h1, _, _, h2, _⟩⟩ := h
  · rw [h2]; exact Nat.zero_le _
  · injection h1 with _ _ h3
    rw [h3]; exact h2

/-- A slice of one element, newly laid. -/
theorem aowns_lit {w : World} {B L H : Nat} {m : Mc} {y : Vt Sc} (h : VtR L H w (m, y)) (hL : B ≤ L) (hH : H ≤ w.heap.size) (hB : B ≤ w.heap.size) :
    AOwns vtCells 5 28 VtR (w.alloc (.cells #[.int .i64 m.k, .int .i64 m.n, .int .i64 m.d, .string m.t, .slice m.ra m.rl m.rc] 28)) B (.slice (some ⟨w.heap.size, 0, none⟩) 1 1) [(m, y)] := by
  refine ⟨⟨rfl, Or.inr ⟨w.heap.size, 1, _, rfl, hB, heap_alloc_new _ _ _ rfl, Nat.le_refl _, by unfold maxLen; omega, rfl, rfl⟩⟩, fun i x hx => ?_⟩
  cases i with
  | zero =>
    have e : (m, y) = x := by simpa using hx
    subst e
    refine ⟨L, H, hL, by simp; omega, fun g hg => ?_, vtR_hangs L H w _ (m, y) h fun k _ hk => heap_alloc_old _ _ _ (by omega)⟩
    have e : w.heap.size = g := by simpa [Value.ownBlock] using hg
    omega
  | succ i => simp at hx

theorem vt_new (w : World) (x : Sc) : GLie vtCells 5 (w.alloc (.cells #[.int .i64 x.k, .int .i64 x.n, .int .i64 x.d, .string x.t, .slice none 0 0] 28)) w.heap.size 0 [(x.mc, .sc x)] :=
  glie_one (cells := vtCells) (z := 5) w (x.mc, .sc x) _ _ rfl

/-- The arguments of a law: its table, and single values. -/
abbrev lawArgs (m : Mc) (rows : List (List Sc)) (xs : List Sc) : List (Mc × Vt Sc) := (m, .mat rows) :: xs.map fun x => (x.mc, .sc x)

theorem lawArgs_snoc (m : Mc) (rows : List (List Sc)) (ys : List Sc) (y : Sc) : lawArgs m rows (ys ++ [y]) = lawArgs m rows ys ++ [(y.mc, .sc y)] := by simp [lawArgs]

end Go.Proofs.YtpcfmkongpmmmaaGreatDoor
