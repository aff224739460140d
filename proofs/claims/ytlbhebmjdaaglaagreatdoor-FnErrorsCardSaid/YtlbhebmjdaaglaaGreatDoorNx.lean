/-
  Walking along the list of arguments: Front, Next.
-/
import Derived.Test.YtlbhebmjdaaglaaGreatDoorM
namespace Go.Proofs.YtlbhebmjdaaglaaGreatDoor
set_option linter.unusedSimpArgs false
set_option linter.unusedVariables false
open Go Go.RowKit
set_option maxRecDepth 100000

/-- A list of arguments with its elements named. -/
def ArgsEs (w : World) (b : Nat) (es : List (Nat × Value)) (vs : List (Array Value)) : Prop :=
  IsList w b es ∧ es.map Prod.snd = vs.map (fun v => Value.iface 62 (.agg v))

theorem ArgsAt.es {w : World} {b B : Nat} {vs : List (Array Value)} (h : ArgsAt w b B vs) : ∃ es, ArgsEs w b es vs := by
  obtain ⟨es, h1, h2, _⟩ := h
  exact ⟨es, h1, h2⟩

theorem ArgsEs.ext {w w' : World} {b : Nat} {es : List (Nat × Value)} {vs : List (Array Value)} (h : ArgsEs w b es vs) (hb : Ext w w') : ArgsEs w' b es vs := ⟨h.1.ext hb, h.2⟩

theorem ArgsEs.len {w : World} {b : Nat} {es : List (Nat × Value)} {vs : List (Array Value)} (h : ArgsEs w b es vs) : es.length = vs.length := by
  have := congrArg List.length h.2
  simpa using this

theorem ArgsEs.elem {w : World} {b : Nat} {es : List (Nat × Value)} {vs : List (Array Value)} (h : ArgsEs w b es vs) {i : Nat} {v : Array Value} (hi : vs[i]? = some v) :
    ∃ n, es[i]? = some (n, Value.iface 62 (.agg v)) ∧ ElemAt w n v := by
  have hs : (es.map Prod.snd)[i]? = some (Value.iface 62 (.agg v)) := by rw [h.2, List.getElem?_map, hi]; rfl
  rw [List.getElem?_map] at hs
  obtain ⟨⟨n, u⟩, hx, hu⟩ := Option.map_eq_some_iff.1 hs
  simp only at hu
  subst hu
  exact ⟨n, hx, by unfold ElemAt; rw [cell_of_block (h.1.elem i n _ hx)]; rfl⟩

/-- The pointer to the element at a place; nil behind the last one. -/
def elp (es : List (Nat × Value)) (i : Nat) : Value := match es[i]? with
  | some (n, _) => ptr n
  | none => .pointer none

set_option maxHeartbeats 400000 in
theorem front_es (w : World) (b : Nat) (es : List (Nat × Value)) (vs : List (Array Value)) (h : ArgsEs w b es vs) :
    Calls Tryz.prog 55 #[ptr b] w fun e w' => e = .returned (elp es 0) ∧ w = w' := by
  have hr := h.1.root
  have c0 : w.cell? ⟨b, 0, none⟩ = some (ptr (blk b es 0)) := by rw [cell_of_block hr]; rfl
  have c4 : w.cell? ⟨b, 4, none⟩ = some (.int .i64 es.length) := by rw [cell_of_block hr]; rfl
  cases hes : es with
  | nil =>
    rw [hes] at c4
    clear hr h hes
    go_enter Tryz.func55, Tryz.ntmps55
    go_wp2
    go_ret
    exact ⟨rfl, rfl⟩
  | cons x xs =>
    have hb0 : blk b es 0 = x.1 := by rw [hes]; rfl
    have he : elp (x :: xs) 0 = ptr x.1 := rfl
    rw [he]
    rw [hb0] at c0
    rw [hes] at c4
    have hz : ((((x :: xs).length : Nat) : Int) == 0) = false := by rw [beq_eq_false_iff_ne, List.length_cons]; omega
    have hz2 : ¬ (((x :: xs).length : Nat) : Int) = 0 := by rw [List.length_cons]; omega
    generalize (x :: xs).length = len at c4 hz hz2
    clear hr h hes hb0 he
    go_enter Tryz.func55, Tryz.ntmps55
    go_wp2
    go_ret
    exact ⟨rfl, rfl⟩
end Go.Proofs.YtlbhebmjdaaglaaGreatDoor
