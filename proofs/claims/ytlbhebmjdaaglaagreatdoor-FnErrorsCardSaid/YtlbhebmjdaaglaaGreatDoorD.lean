/-
  Flat, First, doubtful, numbers over lists of single values.
-/
import Derived.Test.YtlbhebmjdaaglaaGreatDoorC
namespace Go.Proofs.YtlbhebmjdaaglaaGreatDoor
set_option linter.unusedSimpArgs false
set_option linter.unusedVariables false
open Go Go.RowKit
set_option maxRecDepth 100000

/-- A value as the machine has it: with the slice of its Rows. -/
structure Mc where
  k : Int
  n : Int
  d : Int
  t : ByteArray
  ra : Option Addr
  rl : Nat
  rc : Nat

def Mc.sc (x : Mc) : Sc := ⟨x.k, x.n, x.d, x.t⟩

def At5m (w : World) (b o : Nat) (x : Mc) : Prop :=
  w.cell? ⟨b, o, none⟩ = some (.int .i64 x.k) ∧ w.cell? ⟨b, o + 1, none⟩ = some (.int .i64 x.n) ∧ w.cell? ⟨b, o + 2, none⟩ = some (.int .i64 x.d) ∧
  w.cell? ⟨b, o + 3, none⟩ = some (.string x.t) ∧ w.cell? ⟨b, o + 4, none⟩ = some (.slice x.ra x.rl x.rc)

theorem At5m.ext {w w' : World} {b o : Nat} {x : Mc} (h : At5m w b o x) (hb : Ext w w') : At5m w' b o x :=
  ⟨hb.get h.1, hb.get h.2.1, hb.get h.2.2.1, hb.get h.2.2.2.1, hb.get h.2.2.2.2⟩

/-- What Flat makes of a slice of values. -/
def FlatGives (w : World) (xs : List Sc) (e : Ending) (w' : World) : Prop := ∃ v, e = .returned v ∧ Owns w' w.heap.size v xs ∧ Ext w w'

def outOf (y : Mc × List (List Sc)) : List Sc := if y.1.k = 5 then y.2.flatten else [y.1.sc]

theorem append_len {α : Type} {xs ys : List α} {N : Nat} (h : (xs ++ ys).length ≤ N) : xs.length + ys.length ≤ N := by rwa [List.length_append] at h

theorem flatten_take_succ {α : Type} {rows : List (List α)} {i : Nat} {row : List α} (h : Hid (rows[i]? = some row)) : (rows.take (i + 1)).flatten = (rows.take i).flatten ++ row := by
  rw [take_succ_at h, List.flatten_append]; simp

theorem flatten_take_le {α : Type} (rows : List (List α)) (i : Nat) : (rows.take i).flatten.length ≤ rows.flatten.length := by
  have h : rows.flatten = (rows.take i).flatten ++ (rows.drop i).flatten := by rw [← List.flatten_append, List.take_append_drop]
  rw [h, List.length_append]; omega

theorem flatMap_take_le {α β : Type} (f : α → List β) (xs : List α) (i : Nat) : ((xs.take i).flatMap f).length ≤ (xs.flatMap f).length := by
  have h : xs.flatMap f = (xs.take i).flatMap f ++ (xs.drop i).flatMap f := by rw [← List.flatMap_append, List.take_append_drop]
  rw [h, List.length_append]; omega
end Go.Proofs.YtlbhebmjdaaglaaGreatDoor
