/-
  container/list: what its functions do to a list that was built by PushBack.
-/
import Derived.Test.YtlbhebmjdaaglaaGreatDoorA
namespace Go.Proofs.YtlbhebmjdaaglaaGreatDoor
set_option linter.unusedSimpArgs false
set_option linter.unusedVariables false
open Go Go.RowKit
set_option maxRecDepth 100000

theorem heap_setCell_at {w : World} {b o : Nat} {v : Value} {c : Array Value} {e : TypeId} {f : Nat × Nat} (h : w.heap[b]? = some (.cells c e f)) :
    (w.setCell ⟨b, o, none⟩ v).heap[b]? = some (.cells (c.setIfInBounds o v) e f) := by
  simp only [World.setCell, Array.getElem?_modify, h]
  simp

theorem heap_setCell_ne {w : World} {b o k : Nat} {v : Value} (h : k ≠ b) : (w.setCell ⟨b, o, none⟩ v).heap[k]? = w.heap[k]? := Below.heap_setCell _ _ _ _ h

theorem heap_alloc_new (w : World) (o : Obj) (n : Nat) (hn : n = w.heap.size) : (w.alloc o).heap[n]? = some o := by
  subst hn
  show (w.heap.push o)[w.heap.size]? = _
  simp

theorem heap_alloc_old (w : World) (o : Obj) (n : Nat) (hn : n < w.heap.size) : (w.alloc o).heap[n]? = w.heap[n]? := Below.heap_alloc w o n hn

theorem cell_of_block {w : World} {g : Nat} {cur : Array Value} {e : TypeId} {f : Nat × Nat} (h : w.heap[g]? = some (.cells cur e f)) (i : Nat) : w.cell? ⟨g, i, none⟩ = cur[i]? := by
  simp [World.cell?, h]
theorem free_of_block {w : World} {g : Nat} {cur : Array Value} {e : TypeId} (h : w.heap[g]? = some (.cells cur e (0, 0))) (i : Nat) : w.frozen? ⟨g, i, none⟩ = false := by
  simp [World.frozen?, h]

abbrev ptr (b : Nat) : Value := .pointer (some ⟨b, 0, none⟩)

/-- The block of the element at a place; behind the last one the list's own. -/
def blk (b : Nat) (es : List (Nat × Value)) (i : Nat) : Nat := ((es[i]?).map Prod.fst).getD b
def prv (b : Nat) (es : List (Nat × Value)) (i : Nat) : Nat := if i = 0 then b else blk b es (i - 1)

/-- The list in block b holds es: each element's block and its value. -/
structure IsList (w : World) (b : Nat) (es : List (Nat × Value)) : Prop where
  root : w.heap[b]? = some (Obj.cells #[ptr (blk b es 0), ptr (prv b es es.length), .pointer none, .nilIface, .int .i64 es.length] 88 (0, 0))
  elem : ∀ i n v, es[i]? = some (n, v) → w.heap[n]? = some (Obj.cells #[ptr (blk b es (i + 1)), ptr (prv b es i), ptr b, v] 77 (0, 0))
  apart : (b :: es.map Prod.fst).Pairwise (· < ·)

set_option maxHeartbeats 800000 in
theorem list_new (w : World) : Calls Tryz.prog 58 #[] w fun e w' => e = .returned (ptr w.heap.size) ∧ IsList w' w.heap.size [] ∧ Ext w w' := by
  go_enter Tryz.func58, Tryz.ntmps58
  go_wp2
  go_ret
  refine ⟨rfl, ⟨?_, fun i n v h => by simp at h, by simp⟩, (by repeat (first | with_reducible exact Below.refl _ _ | with_reducible assumption | ((with_reducible refine Below.setCell ?_ ?_ _); rotate_left; (simp; try omega)) | (with_reducible refine Ext.tr ?_ (by with_reducible assumption)) | (with_reducible refine Ext.al ?_ _) | (with_reducible refine below_drewN ?_ _) | (with_reducible refine Below.drew ?_)))⟩
  rw [heap_alloc_new _ _ _ rfl]; rfl

/-- All blocks but those of a list are as they were. -/
structure Keeps (S : List Nat) (w w' : World) : Prop where
  os : w'.os = w.os
  tape : w'.tape = w.tape
  output : w'.output = w.output
  size : w.heap.size ≤ w'.heap.size
  block : ∀ k, k < w.heap.size → k ∉ S → w'.heap[k]? = w.heap[k]?

theorem Keeps.ext {S : List Nat} {a w w' : World} (h : Keeps S w w') (hb : Ext a w) (hS : ∀ k ∈ S, a.heap.size ≤ k) : Ext a w' :=
  ⟨h.os.trans hb.os, h.tape.trans hb.tape, h.output.trans hb.output, Nat.le_trans hb.size h.size, fun k hk => by
    rw [h.block k (Nat.lt_of_lt_of_le hk hb.size) (fun hm => by have := hS k hm; omega)]
    exact hb.block k hk⟩

set_option maxHeartbeats 800000 in
/-- PushBack onto an empty list. -/
theorem push_empty (w : World) (b : Nat) (t : TypeId) (v : Array Value) (h : IsList w b []) :
    Calls Tryz.prog 59 #[ptr b, .iface t (.agg v)] w fun e w' => e = .returned (ptr w.heap.size) ∧ IsList w' b [(w.heap.size, Value.iface t (.agg v))] ∧ Keeps [b] w w' := by
  have hr := h.root
  have hblt : b < w.heap.size := by
    apply Classical.byContradiction; intro hn
    rw [Array.getElem?_eq_none (by omega)] at hr; cases hr
  have c0 : w.cell? ⟨b, 0, none⟩ = some (ptr b) := by rw [cell_of_block hr]; rfl
  have c1 : w.cell? ⟨b, 1, none⟩ = some (ptr b) := by rw [cell_of_block hr]; rfl
  have c4 : w.cell? ⟨b, 4, none⟩ = some (.int .i64 0) := by rw [cell_of_block hr]; rfl
  have f0 := free_of_block hr
  have HR := Lib.hid hr; clear hr h
  go_enter Tryz.func59, Tryz.ntmps59
  go_wp2
  go_end0
  go_wp2
  go_ret
  have hne : b ≠ w.heap.size := by omega
  have hne' : w.heap.size ≠ b := by omega
  have hr := HR.out
  refine ⟨rfl, ⟨?_, ?_, ?_⟩, ?_⟩
  · simp [World.setCell, World.alloc, Array.getElem?_modify, Array.getElem?_push, hr, hne, hne', blk, prv]
  · intro i n u hi
    cases i with
    | zero =>
      simp at hi
      obtain ⟨rfl, rfl⟩ := hi
      simp [World.setCell, World.alloc, Array.getElem?_modify, Array.getElem?_push, Array.getElem_push, hne, hne', blk, prv]
    | succ i => simp at hi
  · simp [hblt]
  · refine ⟨rfl, rfl, rfl, by simp [World.setCell, World.alloc], fun k hk hm => ?_⟩
    have hkb : k ≠ b := by simpa using hm
    have hkn : k ≠ w.heap.size := by omega
    simp [World.setCell, World.alloc, Array.getElem?_modify, Array.getElem?_push, Ne.symm hkb, Ne.symm hkn, hkn]

theorem blk_last {b : Nat} {es : List (Nat × Value)} {n : Nat} {u : Value} (h : es ≠ []) (hl : es[es.length - 1]? = some (n, u)) : prv b es es.length = n := by
  have : es.length ≠ 0 := fun h0 => h (List.eq_nil_of_length_eq_zero h0)
  unfold prv blk
  rw [if_neg this, hl]; rfl

set_option maxHeartbeats 1600000 in
/-- PushBack onto a list that holds something. -/
theorem push_more (w : World) (b : Nat) (es : List (Nat × Value)) (t : TypeId) (v : Array Value) (h : IsList w b es) (hne : es ≠ []) (hlen : es.length ≤ 1000000000) :
    Calls Tryz.prog 59 #[ptr b, .iface t (.agg v)] w fun e w' => e = .returned (ptr w.heap.size) ∧ IsList w' b (es ++ [(w.heap.size, Value.iface t (.agg v))]) ∧ Keeps (b :: es.map Prod.fst) w w' := by
  obtain ⟨n, u, hlast⟩ : ∃ n u, es[es.length - 1]? = some (n, u) := by
    have : es.length - 1 < es.length := by have := List.length_pos_iff.2 hne; omega
    exact ⟨es[es.length - 1].1, es[es.length - 1].2, List.getElem?_eq_getElem this⟩
  have hr := h.root
  rw [blk_last hne hlast] at hr
  have he := h.elem _ _ _ hlast
  have hlt0 : ∀ {m : Nat} {o : Obj}, w.heap[m]? = some o → m < w.heap.size := by
    intro m o hm
    apply Classical.byContradiction; intro hn
    rw [Array.getElem?_eq_none (by omega)] at hm; cases hm
  have hblt := hlt0 hr
  have hnlt := hlt0 he
  have hnb : b < n := by
    have := h.apart
    rw [List.pairwise_cons] at this
    exact this.1 n (List.mem_map.2 ⟨(n, u), List.mem_of_getElem? hlast, rfl⟩)
  obtain ⟨n0, hn0⟩ : ∃ n0, blk b es 0 = n0 := ⟨_, rfl⟩
  rw [hn0] at hr
  have hn00 : blk b es (es.length - 1 + 1) = b := by
    unfold blk
    rw [List.getElem?_eq_none (by omega)]; rfl
  rw [hn00] at he
  obtain ⟨pq, hpq⟩ : ∃ pq, prv b es (es.length - 1) = pq := ⟨_, rfl⟩
  rw [hpq] at he
  have c0 : w.cell? ⟨b, 0, none⟩ = some (ptr n0) := by rw [cell_of_block hr]; rfl
  have c1 : w.cell? ⟨b, 1, none⟩ = some (ptr n) := by rw [cell_of_block hr]; rfl
  have c4 : w.cell? ⟨b, 4, none⟩ = some (.int .i64 es.length) := by rw [cell_of_block hr]; rfl
  have f0 := free_of_block hr
  have d0 : w.cell? ⟨n, 0, none⟩ = some (ptr b) := by rw [cell_of_block he]; rfl
  have d1 : w.cell? ⟨n, 1, none⟩ = some (ptr pq) := by rw [cell_of_block he]; rfl
  have d2 : w.cell? ⟨n, 2, none⟩ = some (ptr b) := by rw [cell_of_block he]; rfl
  have d3 : w.cell? ⟨n, 3, none⟩ = some u := by rw [cell_of_block he]; rfl
  have g0 := free_of_block he
  have HR := Lib.hid hr; clear hr
  have HE := Lib.hid he; clear he
  have HH := Lib.hid h; clear h
  have HNE := Lib.hid hne; clear hne
  have HLAST := Lib.hid hlast; clear hlast
  have HN0 := Lib.hid hn0; clear hn0 hn00
  have HPQ := Lib.hid hpq; clear hpq
  clear hlt0
  have hnb' : n ≠ b := by omega
  have hnb2 : b ≠ n := by omega
  go_enter Tryz.func59, Tryz.ntmps59
  go_wp2
  go_end0
  go_wp2
  go_ret
  have hbs : b ≠ w.heap.size := by omega
  have hsb : w.heap.size ≠ b := by omega
  have hns : n ≠ w.heap.size := by omega
  have hsn : w.heap.size ≠ n := by omega
  have hr := HR.out
  have he := HE.out
  have h := HH.out
  have hne := HNE.out
  have hlast := HLAST.out
  have hl1 : 1 ≤ es.length := List.length_pos_iff.2 hne
  refine ⟨rfl, ⟨?_, ?_, ?_⟩, ?_⟩
  · have e1 : blk b (es ++ [(w.heap.size, Value.iface t (.agg v))]) 0 = n0 := by
      rw [← HN0.out]; unfold blk; rw [List.getElem?_append_left (by omega)]
    have e2 : prv b (es ++ [(w.heap.size, Value.iface t (.agg v))]) (es ++ [(w.heap.size, Value.iface t (.agg v))]).length = w.heap.size := by
      unfold prv blk; rw [if_neg (by simp)]; simp
    rw [e1, e2]
    simp [World.setCell, World.alloc, Array.getElem?_modify, Array.getElem?_push, Array.getElem_push, hr, he, hbs, hsb, hns, hsn, hnb', hnb2]
  · intro i m x hi
    by_cases hi1 : i = es.length
    · subst hi1
      rw [List.getElem?_append_right (by omega)] at hi
      simp at hi
      obtain ⟨rfl, rfl⟩ := hi
      have e1 : blk b (es ++ [(w.heap.size, Value.iface t (.agg v))]) (es.length + 1) = b := by
        unfold blk; rw [List.getElem?_eq_none (by simp)]; rfl
      have e2 : prv b (es ++ [(w.heap.size, Value.iface t (.agg v))]) es.length = n := by
        unfold prv blk; rw [if_neg (by omega), List.getElem?_append_left (by omega), hlast]; rfl
      rw [e1, e2]
      simp [World.setCell, World.alloc, Array.getElem?_modify, Array.getElem?_push, Array.getElem_push, hbs, hsb, hns, hsn, hnb', hnb2]
    · have hilt : i < es.length := by
        apply Classical.byContradiction; intro hn
        rw [List.getElem?_eq_none (by simp; omega)] at hi; cases hi
      rw [List.getElem?_append_left hilt] at hi
      have e2 : prv b (es ++ [(w.heap.size, Value.iface t (.agg v))]) i = prv b es i := by
        unfold prv blk; by_cases h0 : i = 0
        · rw [if_pos h0, if_pos h0]
        · rw [if_neg h0, if_neg h0, List.getElem?_append_left (by omega)]
      rw [e2]
      by_cases hi2 : i = es.length - 1
      · subst hi2
        rw [hlast] at hi
        simp only [Option.some.injEq, Prod.mk.injEq] at hi
        obtain ⟨rfl, rfl⟩ := hi
        have e1 : blk b (es ++ [(w.heap.size, Value.iface t (.agg v))]) (es.length - 1 + 1) = w.heap.size := by
          unfold blk; rw [show es.length - 1 + 1 = es.length by omega, List.getElem?_append_right (by omega)]; simp
        rw [e1, HPQ.out]
        simp [World.setCell, World.alloc, Array.getElem?_modify, Array.getElem?_push, Array.getElem_push, he, hbs, hsb, hns, hsn, hnb', hnb2]
      · have e1 : blk b (es ++ [(w.heap.size, Value.iface t (.agg v))]) (i + 1) = blk b es (i + 1) := by
          unfold blk; rw [List.getElem?_append_left (by omega)]
        rw [e1]
        have hm := h.elem i m x hi
        have hmlt : m < w.heap.size := by
          apply Classical.byContradiction; intro hn
          rw [Array.getElem?_eq_none (by omega)] at hm; cases hm
        have hap := h.apart
        rw [List.pairwise_cons] at hap
        have hbm : b < m := hap.1 m (List.mem_map.2 ⟨(m, x), List.mem_of_getElem? hi, rfl⟩)
        have hmn : m < n := by
          have hp := List.pairwise_iff_getElem.1 hap.2 i (es.length - 1) (by simpa using hilt) (by simp; omega) (by omega)
          have q1 : (es.map Prod.fst)[i]? = some m := by rw [List.getElem?_map, hi]; rfl
          have q2 : (es.map Prod.fst)[es.length - 1]? = some n := by rw [List.getElem?_map, hlast]; rfl
          rw [List.getElem?_eq_getElem (by simpa using hilt)] at q1
          rw [List.getElem?_eq_getElem (by simp; omega)] at q2
          rw [Option.some.inj q1, Option.some.inj q2] at hp
          exact hp
        have k1 : m ≠ b := by omega
        have k2 : m ≠ n := by omega
        have k3 : m ≠ w.heap.size := by omega
        simp [World.setCell, World.alloc, Array.getElem?_modify, Array.getElem?_push, Array.getElem_push, hm, Ne.symm k1, Ne.symm k2, Ne.symm k3, k3]
  · have hap := h.apart
    rw [List.map_append, ← List.cons_append, List.pairwise_append]
    refine ⟨hap, by simp, fun x hx y hy => ?_⟩
    have hy' : y = w.heap.size := by simpa using hy
    rw [hy']
    rcases List.mem_cons.1 hx with rfl | hx
    · exact hblt
    · obtain ⟨p, hp, rfl⟩ := List.mem_map.1 hx
      obtain ⟨i, hi⟩ := List.getElem?_of_mem hp
      have hm := h.elem i p.1 p.2 hi
      apply Classical.byContradiction; intro hn
      rw [Array.getElem?_eq_none (by omega)] at hm; cases hm
  · refine ⟨rfl, rfl, rfl, by simp [World.setCell, World.alloc], fun k hk hm => ?_⟩
    rw [List.mem_cons, not_or] at hm
    have hkb : k ≠ b := hm.1
    have hkn : k ≠ n := fun e => hm.2 (List.mem_map.2 ⟨(n, u), List.mem_of_getElem? hlast, e.symm⟩)
    have hks : k ≠ w.heap.size := by omega
    simp [World.setCell, World.alloc, Array.getElem?_modify, Array.getElem?_push, Ne.symm hkb, Ne.symm hkn, Ne.symm hks, hks]
end Go.Proofs.YtlbhebmjdaaglaaGreatDoor
