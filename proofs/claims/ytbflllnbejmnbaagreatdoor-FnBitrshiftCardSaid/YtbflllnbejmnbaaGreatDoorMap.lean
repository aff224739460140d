/-
  A map literal with texts for keys, made by the call: its updates and a look-up in it.
-/
import Derived.Test.YtbflllnbejmnbaaGreatDoorNum
import Derived.ChangeMaps4
import Derived.MapKept
namespace Go.Proofs.YtbflllnbejmnbaaGreatDoor
set_option linter.unusedSimpArgs false
set_option linter.unusedVariables false
open Go Go.RowKit
set_option maxRecDepth 100000

theorem alloc_at (w : World) (o : Obj) : (w.alloc o).heap[w.heap.size]? = some o := (MapKept.heap_alloc w o).1

theorem push_set {α : Type} (a : Array α) (o o' : α) : (a.push o).setIfInBounds a.size o' = a.push o' := by
  apply Array.ext
  · simp
  · intro i h1 h2
    rw [Array.getElem_setIfInBounds (by simpa using h1), Array.getElem_push, Array.getElem_push]
    by_cases h : i < a.size
    · rw [if_neg (by omega), dif_pos h, dif_pos h]
    · rw [if_pos (by simp at h1; omega), dif_neg h]

theorem set_alloc (w : World) (o o' : Obj) : ({ (w.alloc o) with heap := (w.alloc o).heap.setIfInBounds w.heap.size o' } : World) = w.alloc o' := by
  show ({ w with heap := (w.heap.push o).setIfInBounds w.heap.size o' } : World) = { w with heap := w.heap.push o' }
  rw [push_set]

theorem upd {t kt et : TypeId} (ht : Tryz.prog.underlying t = some (.map kt et)) (es : Array MapEntry) (c : Nat) (s : ByteArray) (v : Value)
    (hck : ∀ w, (Instr.checkKey false 10000 kt (.string s)).run Tryz.prog w = .ok () w) (hfk : ∀ w, (Instr.findKey kt (.string s) es.toList).run Tryz.prog w = .ok none w) (w : World) (b : Nat) (hb : w.heap.size = b) :
    (Instr.mapUpdate t (.map (some b)) (.string s) v).run Tryz.prog (w.alloc (.map es c)) = .ok () (w.alloc (.map (es.push ⟨.string s, v, c⟩) (c + 1))) := by
  subst hb
  simp [Instr.mapUpdate, run_underlying ht, MapKept.run_getObj_map (alloc_at w (.map es c)), hck, hfk, MapKept.run_setObj_map _ (alloc_at w (.map es c)), Result.andThen]
  exact set_alloc w _ _

theorem look {t kt et : TypeId} (ht : Tryz.prog.underlying t = some (.map kt et)) (es : Array MapEntry) (c i : Nat) (s : ByteArray) (v : Value) (he : es.isEmpty = false)
    (hck : ∀ w, (Instr.checkKey false 10000 kt (.string s)).run Tryz.prog w = .ok () w) (hfk : ∀ w, (Instr.findKey kt (.string s) es.toList).run Tryz.prog w = .ok (some (i, v)) w) (w w' : World) (b : Nat) (hb : w'.heap[b]? = some (.map es c)) :
    (Instr.lookup t (.map (some b)) (.string s) false).run Tryz.prog w' = .ok v w' := by
  simp [Instr.lookup, run_underlying ht, MapKept.run_getObj_map hb, hck, hfk, Result.andThen, he]
end Go.Proofs.YtbflllnbejmnbaaGreatDoor
