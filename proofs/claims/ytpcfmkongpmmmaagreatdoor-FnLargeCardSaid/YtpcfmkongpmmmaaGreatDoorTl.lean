/-
  ToList of a matrix; Len of a list by its cell.
-/
import Derived.Test.YtpcfmkongpmmmaaGreatDoorIl
namespace Go.Proofs.YtpcfmkongpmmmaaGreatDoor
set_option linter.unusedSimpArgs false
set_option linter.unusedVariables false
open Go Go.RowKit
set_option maxRecDepth 100000

set_option maxHeartbeats 400000 in
theorem len_cell (p : Nat) (n : Int) (w : World) (h : w.cell? ⟨p, 4, none⟩ = some (.int .i64 n)) : Calls Tryz.prog 110 #[ptr p] w fun e w' => e = .returned (.int .i64 n) ∧ w = w' := by
  go_enter Tryz.func110, Tryz.ntmps110
  go_wp2
  go_ret
  exact ⟨rfl, rfl⟩

/-- The cells of a matrix as formulaArg. -/
abbrev matC (b n c p1 p2 : Nat) : Array Value := #[.string ⟨#[]⟩, .float .f64 0, .string ⟨#[]⟩, .slice none 0 0, .slice (some ⟨b, 0, none⟩) n c, .bool false, .string ⟨#[]⟩, .int .u8 4, ptr p1, ptr p2]

def TlSt (rows : List (List Iv)) (w wr : World) (v i : Value) : Prop :=
  ∃ k : Nat, k ≤ rows.length ∧ i = .int .i64 k ∧ Ext w wr ∧ GOwns innerL 10 64 wr w.heap.size v ((rows.take k).flatten)

set_option maxHeartbeats 1600000 in
theorem toList_mat (rows : List (List Iv)) (L H b c p1 p2 : Nat) (w : World) (hne : rows ≠ []) (hfl : rows.flatten.length ≤ 1000) (hml : MLie innerL 10 L H w b 0 rows) :
    Calls Tryz.prog 113 #[.agg (matC b rows.length c p1 p2)] w fun e w' => ∃ v, e = .returned v ∧ GOwns innerL 10 64 w' w.heap.size v rows.flatten ∧ Ext w w' := by
  have hrl : rows.length ≤ 1000 := Nat.le_trans (rows_le_flatten fun row hr => by
    obtain ⟨i, hi⟩ := List.getElem?_of_mem hr
    exact (hml i row hi).1) hfl
  have HML := Lib.hid hml; have HFL := Lib.hid hfl
  clear hml hfl
  go_enter Tryz.func113, Tryz.ntmps113
  go_wp2
  go_loopw [3, 13] (fun v i wr => TlSt rows w wr v i) (fun _ i _ => rows.length - (intOf i).toNat)
  case atStart => exact ⟨0, Nat.zero_le _, rfl, (Ext.rf _).al _, GOwns.nil _ _⟩
  case round =>
    obtain ⟨k, hk, rfl, hb, hown⟩ := hrel
    have HO := Lib.hid hown; clear hown
    have hsz := hb.size
    by_cases hlt : k < rows.length
    · obtain ⟨row, Hr⟩ := elem_at hlt
      obtain ⟨hrne, gb, rc, hcell, _, _, hgl⟩ := HML.out k row Hr.out
      have hcw := hb.get hcell
      simp only [Nat.zero_add] at hcw
      have HGL := Lib.hid (hgl.ext hb)
      have hlen : ((rows.take k).flatten).length + row.length ≤ 1000 := by
        have h1 := flatten_take_le rows (k + 1)
        rw [flatten_take_succ Hr, List.length_append] at h1
        exact Nat.le_trans h1 HFL.out
      clear hcell hgl
      go_wp2_with (at_builtin; (refine gappend' (cells := innerL) (z := 10) (by decide) innerL_len innerL_one infoF rfl Tryz.underlying59 (by decide) rfl _ _ rfl w.heap.size _ ((rows.take k).flatten) rfl HO.out gb 0 rc row rfl HGL.out (by omega) hsz ?_); intro v' w3 hown3 hg3)
      have hb3 : Ext w w3 := Below.grown hb hg3 hsz (fun q hq => HO.out.below q hq)
      have HO3 := Lib.hid hown3; clear hown3
      go_roundw
      case rel => exact ⟨k + 1, by omega, by go_num, hb3, by rw [flatten_take_succ Hr]; exact HO3.out⟩
      case measure => simp [intOf]; omega
    · have hfull : rows.take k = rows := List.take_of_length_le (by omega)
      have ho := HO.out
      rw [hfull] at ho
      have HF := Lib.hid ho
      clear ho hfull
      go_wp2
      refine bodyPost_ret (v := u3) (by simp [results, Tryz.results113, go_sem, *]) rfl ⟨u3, rfl, HF.out, hb⟩
end Go.Proofs.YtpcfmkongpmmmaaGreatDoor
