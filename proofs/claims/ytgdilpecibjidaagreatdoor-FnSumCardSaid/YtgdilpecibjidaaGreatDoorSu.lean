/-
  SUM's closure on single values.
-/
import Derived.Test.YtgdilpecibjidaaGreatDoorTl
namespace Go.Proofs.YtgdilpecibjidaaGreatDoor
set_option linter.unusedSimpArgs false
set_option linter.unusedVariables false
open Go Go.RowKit
set_option maxRecDepth 100000

/-- The variable of the sum. -/
def SumAt (w : World) (S : Nat) (A : Nat) : Prop := w.heap[S]? = some (.cells #[.float .f64 A] 39 (0, 0))

theorem SumAt.cell {w : World} {S A : Nat} (h : SumAt w S A) : w.cell? ⟨S, 0, none⟩ = some (.float .f64 A) := by unfold SumAt at h; simp [World.cell?, h]
theorem SumAt.free {w : World} {S A : Nat} (h : SumAt w S A) : w.frozen? ⟨S, 0, none⟩ = false := by unfold SumAt at h; simp [World.frozen?, h]
theorem SumAt.ext {w w' : World} {S A : Nat} (h : SumAt w S A) (hb : Ext w w') : SumAt w' S A := by
  unfold SumAt at h ⊢
  rw [hb.block S (block_lt_heap h)]; exact h
theorem SumAt.set {w : World} {S A : Nat} (h : SumAt w S A) (A' : Nat) : SumAt (w.setCell ⟨S, 0, none⟩ (.float .f64 A')) S A' := by
  unfold SumAt at h ⊢
  simp only [World.setCell, Array.getElem?_modify, h]
  simp

theorem Keeps.of_ext {S : List Nat} {w w' : World} (h : Ext w w') : Keeps S w w' := ⟨h.os, h.tape, h.output, h.size, fun k hk _ => h.block k hk⟩
theorem Keeps.tr {S : List Nat} {a b c : World} (h : Keeps S a b) (k : Keeps S b c) : Keeps S a c :=
  ⟨k.os.trans h.os, k.tape.trans h.tape, k.output.trans h.output, Nat.le_trans h.size k.size, fun q hq hs => (k.block q (Nat.lt_of_lt_of_le hq h.size) hs).trans (h.block q hq hs)⟩
theorem Keeps.setCell {S : Nat} {w w' : World} (h : Keeps [S] w w') (o : Nat) (v : Value) : Keeps [S] w (w'.setCell ⟨S, o, none⟩ v) :=
  ⟨h.os, h.tape, h.output, by simpa [World.setCell] using h.size, fun q hq hs => by
    rw [heap_setCell_ne (fun e => hs (by simp [e]))]
    exact h.block q hq hs⟩

/-- What a call of the closure leaves. -/
def CloP (S A' : Nat) (w : World) (e : Ending) (w' : World) : Prop := e = .returned (.tuple #[]) ∧ SumAt w' S A' ∧ Keeps [S] w w'

set_option maxHeartbeats 800000 in
theorem clo_num (f S F A A' : Nat) (r : Bool) (w : World) (hs : SumAt w S A) (ha : Ieee.double.add A f = some A') :
    Calls Tryz.prog 42 #[.agg (fnumC f), .bool r, ptr S, ptr F] w (CloP S A' w) := by
  have hadd := fun w => run_float_arith (P := Tryz.prog) w .add 39 .f64 A f A' ha
  have hc := hs.cell; have hf := hs.free
  have hsl := block_lt_heap hs
  have hne : ¬ w.heap.size = S := by omega
  have hne2 : ¬ S = w.heap.size := by omega
  have HS := Lib.hid hs
  clear ha hs
  cases r
  all_goals
    go_enter Tryz.func42, Tryz.ntmps42
    go_wp2
    refine bodyPost_end (v := .tuple #[]) (by simp [results, Tryz.results42, go_sem]) rfl ⟨rfl, ?_, ?_⟩
    · exact (HS.out.set A').ext ((Ext.rf _).al _)
    · exact ((Keeps.of_ext (Ext.rf w)).setCell 0 _).tr (Keeps.of_ext ((Ext.rf _).al _))

set_option maxHeartbeats 800000 in
theorem clo_log (f S F A A' : Nat) (w : World) (hs : SumAt w S A) (ha : Ieee.double.add A f = some A') :
    Calls Tryz.prog 42 #[.agg (fboolC f), .bool false, ptr S, ptr F] w (CloP S A' w) := by
  have hadd := fun w => run_float_arith (P := Tryz.prog) w .add 39 .f64 A f A' ha
  have hc := hs.cell; have hf := hs.free
  have hsl := block_lt_heap hs
  have hne : ¬ w.heap.size = S := by omega
  have hne2 : ¬ S = w.heap.size := by omega
  have HS := Lib.hid hs
  clear ha hs
  go_enter Tryz.func42, Tryz.ntmps42
  go_wp2
  refine bodyPost_end (v := .tuple #[]) (by simp [results, Tryz.results42, go_sem]) rfl ⟨rfl, ?_, ?_⟩
  · exact (HS.out.set A').ext ((Ext.rf _).al _)
  · exact ((Keeps.of_ext (Ext.rf w)).setCell 0 _).tr (Keeps.of_ext ((Ext.rf _).al _))

set_option maxHeartbeats 800000 in
theorem clo_log_skip (f S F A : Nat) (w : World) (hs : SumAt w S A) : Calls Tryz.prog 42 #[.agg (fboolC f), .bool true, ptr S, ptr F] w (CloP S A w) := by
  have HS := Lib.hid hs; clear hs
  go_enter Tryz.func42, Tryz.ntmps42
  go_wp2
  refine bodyPost_ret (v := .tuple #[]) (by simp [results, Tryz.results42, go_sem]) rfl ⟨rfl, HS.out.ext ((Ext.rf _).al _), Keeps.of_ext ((Ext.rf _).al _)⟩

set_option maxHeartbeats 800000 in
theorem clo_text_skip (t : ByteArray) (S F A : Nat) (w : World) (hs : SumAt w S A) : Calls Tryz.prog 42 #[.agg (fstrC t), .bool true, ptr S, ptr F] w (CloP S A w) := by
  have HS := Lib.hid hs; clear hs
  go_enter Tryz.func42, Tryz.ntmps42
  go_wp2
  refine bodyPost_ret (v := .tuple #[]) (by simp [results, Tryz.results42, go_sem]) rfl ⟨rfl, HS.out.ext ((Ext.rf _).al _), Keeps.of_ext ((Ext.rf _).al _)⟩

set_option maxHeartbeats 800000 in
theorem clo_err_skip (t u : ByteArray) (S F A : Nat) (w : World) (hs : SumAt w S A) : Calls Tryz.prog 42 #[.agg (ferrC t u), .bool true, ptr S, ptr F] w (CloP S A w) := by
  have HS := Lib.hid hs; clear hs
  go_enter Tryz.func42, Tryz.ntmps42
  go_wp2
  refine bodyPost_end (v := .tuple #[]) (by simp [results, Tryz.results42, go_sem]) rfl ⟨rfl, HS.out.ext ((Ext.rf _).al _), Keeps.of_ext ((Ext.rf _).al _)⟩

set_option maxHeartbeats 800000 in
theorem clo_empty_skip (S F A : Nat) (w : World) (hs : SumAt w S A) : Calls Tryz.prog 42 #[.agg femptyC, .bool true, ptr S, ptr F] w (CloP S A w) := by
  have HS := Lib.hid hs; clear hs
  go_enter Tryz.func42, Tryz.ntmps42
  go_wp2
  refine bodyPost_end (v := .tuple #[]) (by simp [results, Tryz.results42, go_sem]) rfl ⟨rfl, HS.out.ext ((Ext.rf _).al _), Keeps.of_ext ((Ext.rf _).al _)⟩

/-- What a single value of a range adds, in sixteenths. -/
def Cz (x : Iv) (z : Int) : Prop := if x.k = 1 then x.f = f16 z ∧ -1599999999984 ≤ z ∧ z ≤ 1599999999984 else z = 0

theorem add_f16 {a b : Int} (h1 : -2 ^ 52 < a) (h2 : a < 2 ^ 52) (h3 : -2 ^ 52 < b) (h4 : b < 2 ^ 52) : Ieee.double.add (f16 a) (f16 b) = some (f16 (a + b)) :=
  Fl.add_fx (by omega) (by omega) (by omega) (by omega) (by omega) (by omega) (by omega) (by omega)

/-- The closure on a value of a range. -/
theorem clo_cell (x : Iv) (z Z : Int) (S F : Nat) (w : World) (hx : IvOk x) (hz : Cz x z) (h1 : -2 ^ 51 < Z) (h2 : Z < 2 ^ 51) (hs : SumAt w S (f16 Z)) :
    Calls Tryz.prog 42 #[.agg (innerC x), .bool true, ptr S, ptr F] w (CloP S (f16 (Z + z)) w) := by
  rcases hx with rfl | ⟨f, rfl, hf⟩ | ⟨t, rfl⟩ | rfl | rfl | ⟨t, rfl⟩
  · have e : z = 0 := hz
    subst e; rw [Int.add_zero]; exact clo_empty_skip S F _ w hs
  · obtain ⟨e, q1, q2⟩ : f = f16 z ∧ -1599999999984 ≤ z ∧ z ≤ 1599999999984 := hz
    subst e
    exact clo_num _ S F _ _ true w hs (add_f16 (by omega) (by omega) (by omega) (by omega))
  · have e : z = 0 := hz
    subst e; rw [Int.add_zero]; exact clo_text_skip t S F _ w hs
  · have e : z = 0 := hz
    subst e; rw [Int.add_zero]; exact clo_log_skip _ S F _ w hs
  · have e : z = 0 := hz
    subst e; rw [Int.add_zero]; exact clo_log_skip _ S F _ w hs
  · have e : z = 0 := hz
    subst e; rw [Int.add_zero]; exact clo_err_skip t t S F _ w hs
end Go.Proofs.YtgdilpecibjidaaGreatDoor
