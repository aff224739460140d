/-
  The list of arguments: innerList, and what is read of it.
-/
import Derived.Test.YtlbhebmjdaaglaaGreatDoorN
namespace Go.Proofs.YtlbhebmjdaaglaaGreatDoor
set_option linter.unusedSimpArgs false
set_option linter.unusedVariables false
open Go Go.RowKit
set_option maxRecDepth 100000

theorem block_lt {w : World} {m : Nat} {o : Obj} (hm : w.heap[m]? = some o) : m < w.heap.size := by
  apply Classical.byContradiction; intro hn
  rw [Array.getElem?_eq_none (by omega)] at hm; cases hm

theorem IsList.ext {w w' : World} {b : Nat} {es : List (Nat × Value)} (h : IsList w b es) (hb : Ext w w') : IsList w' b es :=
  ⟨(hb.block b (block_lt h.root)).trans h.root, fun i n v hi => (hb.block n (block_lt (h.elem i n v hi))).trans (h.elem i n v hi), h.apart⟩

theorem push_any (w : World) (b : Nat) (es : List (Nat × Value)) (t : TypeId) (v : Array Value) (h : IsList w b es) (hlen : es.length ≤ 1000000000) :
    Calls Tryz.prog 59 #[ptr b, .iface t (.agg v)] w fun e w' => e = .returned (ptr w.heap.size) ∧ IsList w' b (es ++ [(w.heap.size, Value.iface t (.agg v))]) ∧ Keeps (b :: es.map Prod.fst) w w' := by
  by_cases hne : es = []
  · subst hne; exact push_empty w b t v h
  · exact push_more w b es t v h hne hlen

/-- A list of arguments in memory: its block and its elements, of which the values are known. -/
def ArgsAt (w : World) (b B : Nat) (vs : List (Array Value)) : Prop :=
  ∃ es, IsList w b es ∧ es.map Prod.snd = vs.map (fun v => Value.iface 62 (.agg v)) ∧ B ≤ b ∧ ∀ x ∈ es, B ≤ x.1

theorem ArgsAt.ext {w w' : World} {b B : Nat} {vs : List (Array Value)} (h : ArgsAt w b B vs) (hb : Ext w w') : ArgsAt w' b B vs := by
  obtain ⟨es, h1, h2⟩ := h
  exact ⟨es, h1.ext hb, h2⟩

theorem push_args (w : World) (b B : Nat) (vs : List (Array Value)) (v : Array Value) (h : ArgsAt w b B vs) (hlen : vs.length ≤ 1000000000) (hB : B ≤ w.heap.size) :
    Calls Tryz.prog 59 #[ptr b, .iface 62 (.agg v)] w fun e w' => (∃ p, e = .returned (ptr p)) ∧ ArgsAt w' b B (vs ++ [v]) ∧ ∀ a : World, a.heap.size ≤ B → Ext a w → Ext a w' := by
  obtain ⟨es, h1, h2, h3, h4⟩ := h
  have hlen' : es.length = vs.length := by
    have := congrArg List.length h2
    simpa using this
  refine (push_any w b es _ v h1 (by omega)).mono ?_
  rintro e w' ⟨rfl, hl, hk⟩
  refine ⟨⟨_, rfl⟩, ⟨_, hl, by rw [List.map_append, List.map_append, h2]; rfl, h3, ?_⟩, fun a ha hb => hk.ext hb ?_⟩
  · intro x hx
    rcases List.mem_append.1 hx with hx | hx
    · exact h4 x hx
    · have : x = (w.heap.size, Value.iface 62 (.agg v)) := by simpa using hx
      rw [this]; exact hB
  · intro k hk'
    rcases List.mem_cons.1 hk' with rfl | hk'
    · omega
    · obtain ⟨x, hx, rfl⟩ := List.mem_map.1 hk'
      have := h4 x hx; omega

set_option maxHeartbeats 800000 in
/-- innerList: each argument by innerArg. -/
theorem innerList_ok (inner : Iv → Array Value) (xs : List Iv) (b o c : Nat) (w : World) (hl : xs.length ≤ 1000000000) (hx : LieI w b o xs)
    (hin : ∀ x w', x ∈ xs → Calls Tryz.prog 60 #[x.val] w' (Gives w' (.agg (inner x)))) :
    Calls Tryz.prog 44 #[.slice (some ⟨b, o, none⟩) xs.length c] w fun e w' => ∃ p, e = .returned (ptr p) ∧ ArgsAt w' p w.heap.size (xs.map inner) ∧ Ext w w' := by
  have HX := Lib.hid hx; clear hx
  have HI := Lib.hid hin; clear hin
  go_enter Tryz.func44, Tryz.ntmps44
  go_wp2_with fail
  refine (list_new _).mono ?_
  rintro e w1 ⟨rfl, hl1, hb1⟩
  have hargs : ArgsAt w1 w.heap.size w.heap.size (([] : List Iv).map inner) := ⟨[], hl1, rfl, Nat.le_refl _, fun x hx => by cases hx⟩
  have HA := Lib.hid hargs; clear hargs hl1
  go_wp2
  go_loopw [9] (fun i wr => ∃ k : Nat, k ≤ xs.length ∧ i = .int .i64 k ∧ Ext w wr ∧ ArgsAt wr w.heap.size w.heap.size ((xs.take k).map inner)) (fun i _ => xs.length - (intOf i).toNat)
  case atStart => exact ⟨0, Nat.zero_le _, rfl, hb1, HA.out⟩
  case round =>
    obtain ⟨k, hk, rfl, hb, hargs⟩ := hrel
    have HO := Lib.hid hargs; clear hargs
    by_cases hlt : k < xs.length
    · obtain ⟨x, Hx⟩ := elem_at hlt
      obtain ⟨c0, c1, c2, c3⟩ := LieI.at (HX.out.ext hb) Hx.out
      go_wp2_with fail
      refine (HI.out x _ (mem_at Hx)).mono ?_
      rintro e w2 ⟨rfl, hb2⟩
      have hb3 : Ext w w2 := (hb.al _).tr hb2
      have HO2 := Lib.hid ((HO.out.ext ((Ext.rf _).al _)).ext hb2)
      have hsz := hb3.size
      go_wp2_with fail
      refine (push_args w2 w.heap.size w.heap.size _ (inner x) HO2.out (by simp; omega) hsz).mono ?_
      rintro e w3 ⟨⟨p, rfl⟩, hargs3, hext⟩
      have hb4 := hext w (Nat.le_refl _) hb3
      have HO3 := Lib.hid hargs3; clear hargs3 hext
      go_wp2
      go_roundw
      case rel => exact ⟨k + 1, by omega, by go_num, hb4, by rw [map_take_succ Hx]; exact HO3.out⟩
      case measure => simp [intOf]; omega
    · go_wp2
      go_ret
      refine ⟨_, rfl, ?_, hb⟩
      have := HO.out
      rw [List.take_of_length_le (by omega)] at this
      exact this

set_option maxHeartbeats 400000 in
theorem len_ok (w : World) (b B : Nat) (vs : List (Array Value)) (h : ArgsAt w b B vs) : Calls Tryz.prog 53 #[ptr b] w fun e w' => e = .returned (.int .i64 vs.length) ∧ w = w' := by
  obtain ⟨es, h1, h2, h3, h4⟩ := h
  have hlen' : es.length = vs.length := by
    have := congrArg List.length h2
    simpa using this
  have c4 : w.cell? ⟨b, 4, none⟩ = some (.int .i64 vs.length) := by rw [cell_of_block h1.root, hlen']; rfl
  clear h1 h2 h3 h4 hlen'
  go_enter Tryz.func53, Tryz.ntmps53
  go_wp2
  go_ret
  exact ⟨rfl, rfl⟩

/-- The element at a place of the list of arguments: its value, and its links. -/
theorem ArgsAt.elem {w : World} {b B : Nat} {vs : List (Array Value)} (h : ArgsAt w b B vs) {i : Nat} {v : Array Value} (hi : vs[i]? = some v) :
    ∃ es n, IsList w b es ∧ es.length = vs.length ∧ es[i]? = some (n, Value.iface 62 (.agg v)) := by
  obtain ⟨es, h1, h2, h3, h4⟩ := h
  have hlen' : es.length = vs.length := by
    have := congrArg List.length h2
    simpa using this
  have hs : (es.map Prod.snd)[i]? = some (Value.iface 62 (.agg v)) := by rw [h2, List.getElem?_map, hi]; rfl
  rw [List.getElem?_map] at hs
  obtain ⟨⟨n, u⟩, hx, hu⟩ := Option.map_eq_some_iff.1 hs
  simp only at hu
  exact ⟨es, n, h1, hlen', by rw [hx, hu]⟩

/-- What a pointer to an element leads to. -/
def ElemAt (w : World) (n : Nat) (v : Array Value) : Prop := w.cell? ⟨n, 3, none⟩ = some (.iface 62 (.agg v))

theorem ElemAt.ext {w w' : World} {n : Nat} {v : Array Value} (h : ElemAt w n v) (hb : Ext w w') : ElemAt w' n v := hb.get h

set_option maxHeartbeats 400000 in
theorem front_ok (w : World) (b B : Nat) (v : Array Value) (vs : List (Array Value)) (h : ArgsAt w b B (v :: vs)) :
    Calls Tryz.prog 55 #[ptr b] w fun e w' => (∃ n, e = .returned (ptr n) ∧ ElemAt w n v) ∧ w = w' := by
  obtain ⟨es, n, h1, hlen, hi⟩ := h.elem (i := 0) rfl
  have hr := h1.root
  have hb0 : blk b es 0 = n := by unfold blk; rw [hi]; rfl
  rw [hb0, hlen] at hr
  have c0 : w.cell? ⟨b, 0, none⟩ = some (ptr n) := by rw [cell_of_block hr]; rfl
  have c4 : w.cell? ⟨b, 4, none⟩ = some (.int .i64 (vs.length + 1 : Nat)) := by rw [cell_of_block hr]; rfl
  have he : ElemAt w n v := by unfold ElemAt; rw [cell_of_block (h1.elem 0 _ _ hi)]; rfl
  have HE := Lib.hid he; clear he
  have hz : ((vs.length : Int) + 1 == 0) = false := by rw [beq_eq_false_iff_ne]; omega
  clear h1 h hi hlen hr hb0
  go_enter Tryz.func55, Tryz.ntmps55
  go_wp2
  go_ret
  exact ⟨⟨n, rfl, HE.out⟩, rfl⟩
end Go.Proofs.YtlbhebmjdaaglaaGreatDoor
