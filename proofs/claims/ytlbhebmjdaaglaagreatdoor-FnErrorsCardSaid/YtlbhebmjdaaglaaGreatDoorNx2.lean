/-
  Walking along the list of arguments: Next (only in a seat that reaches it).
-/
import Derived.Test.YtlbhebmjdaaglaaGreatDoorNx
import Derived.LaidEql
namespace Go.Proofs.YtlbhebmjdaaglaaGreatDoor
set_option linter.unusedSimpArgs false
set_option linter.unusedVariables false
open Go Go.RowKit
set_option maxRecDepth 100000

theorem info_element : ∃ j, Tryz.prog.info? 77 = some j ∧ j.size ≠ 0 := by
  have h : (Tryz.prog.info? 77).map (fun i => i.size != 0) = some true := by kernel_rfl
  obtain ⟨j, h1, h2⟩ := Option.map_eq_some_iff.1 h
  exact ⟨j, h1, by simpa using h2⟩

theorem neq_same (w : World) (a : Addr) : (binOp .neq 75 (.pointer (some a)) (.pointer (some a))).run Tryz.prog w = .ok (.bool false) w := by
  obtain ⟨j, h1, h2⟩ := info_element
  have hu : Tryz.prog.underlying 75 = some (.pointer 77) := by kernel_rfl
  have h : ∀ d : Nat, (Op.equalIn (d + 1) 75 (.pointer (some a)) (.pointer (some a))).run Tryz.prog w = .ok true w := fun d => by
    simp [Op.equalIn, run_underlying hu, sizeOf, typeInfo, h1, h2, run_sameAddr_same]
  simp only [binOp]
  simp [Op.equal, Op.maxDepth, h 9999]

theorem neq_other (w : World) {a b : Addr} {ca cb : Array Value} {ta tb : TypeId} (hne : a ≠ b) (ha : w.heap[a.block]? = some (.cells ca ta (0, 0))) (hb : w.heap[b.block]? = some (.cells cb tb (0, 0))) :
    (binOp .neq 75 (.pointer (some a)) (.pointer (some b))).run Tryz.prog w = .ok (.bool true) w := by
  obtain ⟨j, h1, h2⟩ := info_element
  have hu : Tryz.prog.underlying 75 = some (.pointer 77) := by kernel_rfl
  have h : ∀ d : Nat, (Op.equalIn (d + 1) 75 (.pointer (some a)) (.pointer (some b))).run Tryz.prog w = .ok false w := fun d => by
    simp [Op.equalIn, run_underlying hu, sizeOf, typeInfo, h1, h2, run_sameAddr_other w hne ha hb]
  simp only [binOp]
  simp [Op.equal, Op.maxDepth, h 9999]

set_option maxHeartbeats 400000 in
theorem next_es (w : World) (b : Nat) (es : List (Nat × Value)) (vs : List (Array Value)) (h : ArgsEs w b es vs) (i n : Nat) (v : Value) (hi : es[i]? = some (n, v)) :
    Calls Tryz.prog 78 #[ptr n] w fun e w' => e = .returned (elp es (i + 1)) ∧ w = w' := by
  have hr := h.1.elem i n v hi
  have c0 : w.cell? ⟨n, 0, none⟩ = some (ptr (blk b es (i + 1))) := by rw [cell_of_block hr]; rfl
  have c2 : w.cell? ⟨n, 2, none⟩ = some (ptr b) := by rw [cell_of_block hr]; rfl
  cases hes : es[i + 1]? with
  | none =>
    have hb0 : blk b es (i + 1) = b := by unfold blk; rw [hes]; rfl
    have he : elp es (i + 1) = .pointer none := by unfold elp; rw [hes]
    rw [he]
    rw [hb0] at c0
    have hne := neq_same w ⟨b, 0, none⟩
    clear hr h hes hb0 he hi
    go_enter Tryz.func78, Tryz.ntmps78
    go_wp2

    go_ret
    exact ⟨rfl, rfl⟩
  | some x =>
    have hb0 : blk b es (i + 1) = x.1 := by unfold blk; rw [hes]; rfl
    have he : elp es (i + 1) = ptr x.1 := by unfold elp; rw [hes]
    have hlt : b < x.1 := by
      have := h.1.apart
      rw [List.pairwise_cons] at this
      exact this.1 x.1 (List.mem_map.2 ⟨x, List.mem_of_getElem? hes, rfl⟩)
    have hne : ¬ x.1 = b := by omega
    have hne2 : (x.1 == b) = false := by simpa using hne
    rw [he]
    rw [hb0] at c0
    obtain ⟨m, u⟩ := x
    simp only at hlt hne hne2 c0 ⊢
    have hno := neq_other w (a := ⟨m, 0, none⟩) (b := ⟨b, 0, none⟩) (fun h => hne (congrArg Addr.block h)) (h.1.elem (i + 1) m u hes) h.1.root
    clear hr h hes hb0 he hi
    go_enter Tryz.func78, Tryz.ntmps78
    go_wp2
    go_ret
    exact ⟨rfl, rfl⟩
end Go.Proofs.YtlbhebmjdaaglaaGreatDoor
