/-
  sumproduct of the package.
-/
import Derived.Test.YtdakljeladhciaaGreatDoorPw
import Derived.Deep.LoopGhost
import Derived.OwnWalk
import Derived.StillTailTactics
namespace Go.Proofs.YtdakljeladhciaaGreatDoor
set_option linter.unusedSimpArgs false
set_option linter.unusedVariables false
open Go Go.RowKit
set_option maxRecDepth 100000

theorem Keeps.of_ext {S : List Nat} {w w' : World} (h : Ext w w') : Keeps S w w' := ⟨h.os, h.tape, h.output, h.size, fun k hk _ => h.block k hk⟩
theorem Keeps.tr {S : List Nat} {a b c : World} (h : Keeps S a b) (k : Keeps S b c) : Keeps S a c :=
  ⟨k.os.trans h.os, k.tape.trans h.tape, k.output.trans h.output, Nat.le_trans h.size k.size, fun q hq hs => (k.block q (Nat.lt_of_lt_of_le hq h.size) hs).trans (h.block q hq hs)⟩
theorem Keeps.setCell {S : Nat} {w w' : World} (h : Keeps [S] w w') (o : Nat) (v : Value) : Keeps [S] w (w'.setCell ⟨S, o, none⟩ v) :=
  ⟨h.os, h.tape, h.output, by simpa [World.setCell] using h.size, fun q hq hs => by
    rw [heap_setCell_ne (fun e => hs (by simp [e]))]
    exact h.block q hq hs⟩

/-- The variable of the result, not written yet. -/
def ResAt (w : World) (R : Nat) : Prop := w.heap[R]? = some (.cells #[.string ⟨#[]⟩, .float .f64 0, .string ⟨#[]⟩, .slice none 0 0, .slice none 0 0, .bool false, .string ⟨#[]⟩, .int .u8 0, .pointer none, .pointer none] 63 (0, 0))

theorem ResAt.facts {w : World} {R : Nat} (h : ResAt w R) : (∀ i, w.cell? ⟨R, i, none⟩ = (#[.string ⟨#[]⟩, .float .f64 0, .string ⟨#[]⟩, .slice none 0 0, .slice none 0 0, .bool false, .string ⟨#[]⟩, .int .u8 0, .pointer none, .pointer none] : Array Value)[i]?) ∧ ∀ i, w.frozen? ⟨R, i, none⟩ = false := by
  unfold ResAt at h
  exact ⟨fun i => by simp [World.cell?, h], fun i => by simp [World.frozen?, h]⟩

/-- A row of n words. -/
def FRow (w : World) (R n : Nat) (f : Nat → Nat) : Prop := ∃ cur ty, w.heap[R]? = some (.cells cur ty (0, 0)) ∧ ∀ i, i < n → cur[i]? = some (.float .f64 (f i))

theorem FRow.cell {w : World} {R n : Nat} {f : Nat → Nat} (h : FRow w R n f) {i : Nat} (hi : i < n) : w.cell? ⟨R, i, none⟩ = some (.float .f64 (f i)) := by
  obtain ⟨cur, ty, h1, h2⟩ := h
  rw [cell_of_row h1]; exact h2 i hi

theorem FRow.free {w : World} {R n : Nat} {f : Nat → Nat} (h : FRow w R n f) (i : Nat) : w.frozen? ⟨R, i, none⟩ = false := by
  obtain ⟨cur, ty, h1, h2⟩ := h
  simp [World.frozen?, h1]

theorem FRow.lt {w : World} {R n : Nat} {f : Nat → Nat} (h : FRow w R n f) : R < w.heap.size := by
  obtain ⟨cur, ty, h1, h2⟩ := h
  exact block_lt_heap h1

theorem FRow.blk {w w' : World} {R n : Nat} {f : Nat → Nat} (h : FRow w R n f) (hb : w'.heap[R]? = w.heap[R]?) : FRow w' R n f := by
  obtain ⟨cur, ty, h1, h2⟩ := h
  exact ⟨cur, ty, hb.trans h1, h2⟩

theorem FRow.ext {w w' : World} {R n : Nat} {f : Nat → Nat} (h : FRow w R n f) (hb : Ext w w') : FRow w' R n f := h.blk (hb.block R h.lt)

theorem FRow.congr {w : World} {R n : Nat} {f g : Nat → Nat} (h : FRow w R n f) (hg : ∀ i, i < n → f i = g i) : FRow w R n g := by
  obtain ⟨cur, ty, h1, h2⟩ := h
  exact ⟨cur, ty, h1, fun i hi => by rw [h2 i hi, hg i hi]⟩

theorem FRow.set {w : World} {R n : Nat} {f : Nat → Nat} (h : FRow w R n f) (k y : Nat) : FRow (w.setCell ⟨R, k, none⟩ (.float .f64 y)) R n (fun i => if i = k then y else f i) := by
  obtain ⟨cur, ty, h1, h2⟩ := h
  refine ⟨_, ty, heap_setCell_at h1, fun i hi => ?_⟩
  have h3 := h2 i hi
  have h4 : i < cur.size := by
    apply Classical.byContradiction
    intro hn
    rw [Array.getElem?_eq_none (by omega)] at h3
    cases h3
  show _ = some (Value.float .f64 (if i = k then y else f i))
  by_cases hik : i = k
  · subst hik
    rw [if_pos rfl, Array.getElem?_setIfInBounds_self_of_lt h4]
  · rw [if_neg hik, Array.getElem?_setIfInBounds_ne (fun e => hik e.symm)]
    exact h3

/-- A cell, and what it makes of a word. -/
def CellW (x : Iv) (a b : Nat) : Prop := ∃ f, ((x = ⟨0, 0, ⟨#[]⟩⟩ ∧ f = 0) ∨ (x = ⟨1, f, ⟨#[]⟩⟩ ∧ Tame f)) ∧ Ieee.double.mul a f = some b

set_option maxHeartbeats 400000 in
theorem toNumber_empty (w : World) : Calls Tryz.prog 114 #[.agg femptyC] w (Gives w (fnum 0)) := by
  have H := Lib.hid tame0
  go_enter Tryz.func114, Tryz.ntmps114
  go_wp2_with (go_at_call 118; refine (newNumber_ok _ _ H.out).mono ?_; rintro e w1 ⟨rfl, hb⟩; obtain ⟨hc, hf, hz⟩ := ext_facts hb; (try simp at hz); (try (have hq : w.heap.size < w1.heap.size := by omega)); (try (have hq' : w.heap.size ≤ w1.heap.size := by omega)); (try (have hr := fun o => hc w.heap.size o (by first | omega | (simp; done) | (simp; omega)))); (try (have hrf := fun o => hf w.heap.size o (by first | omega | (simp; done) | (simp; omega)))))
  exact bodyPost_ret (v := fnum 0) (by simp [results, Tryz.results114, go_sem, *]) rfl ⟨rfl, (by repeat (first | with_reducible exact Below.refl _ _ | with_reducible assumption | ((with_reducible refine Below.setCell ?_ ?_ _); rotate_left; (simp; try omega)) | (with_reducible refine Ext.tr ?_ (by with_reducible assumption)) | (with_reducible refine Ext.al ?_ _) | (with_reducible refine below_drewN ?_ _) | (with_reducible refine Below.drew ?_)))⟩

theorem info64 : (Tryz.prog.info? 39).map (fun i => (i.zero, i.size, i.bytes)) = some (some (.float .f64 0), 1, 8) := by kernel_rfl

theorem info64_parts : ∃ i, Tryz.prog.info? 39 = some i ∧ i.zero = some (.float .f64 0) ∧ i.size = 1 ∧ i.bytes = 8 := by
  have h := info64
  cases hi : Tryz.prog.info? 39 with
  | none => rw [hi] at h; cases h
  | some i =>
    rw [hi] at h
    simp only [Option.map_some, Option.some.injEq, Prod.mk.injEq] at h
    exact ⟨i, rfl, h.1, h.2.1, h.2.2⟩

theorem frow_of_owns {w : World} {B R n : Nat} (h : w.ownsRow B 39 1 (.slice (some ⟨R, 0, none⟩) n n) n (madeCells (Value.cells (.float .f64 0)) (n * 1)).toList) (hn : n ≠ 0) : FRow w R n (fun _ => 0) := by
  obtain ⟨_, ⟨_, h0⟩ | ⟨g, cap, cur, hv, hg, hh, hc, hm, hs, ht⟩⟩ := h
  · exact absurd h0 hn
  · injection hv with e1 e2 e3
    injection e1 with e1
    injection e1 with e1 _ _
    subst e1
    refine ⟨cur, _, hh, fun i hi => ?_⟩
    rw [Nat.mul_one] at ht
    have h1 : (cur.toList.take n)[i]? = some (.float .f64 0) := by
      rw [ht, Array.getElem?_toList]
      simp [madeCells, Value.cells, hi]
      rw [Nat.mod_one]; rfl
    rw [List.getElem?_take, if_pos hi, Array.getElem?_toList] at h1
    exact h1
end Go.Proofs.YtdakljeladhciaaGreatDoor
