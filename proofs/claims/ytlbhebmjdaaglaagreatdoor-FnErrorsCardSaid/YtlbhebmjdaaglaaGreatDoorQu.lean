/-
  strconv.Quote of a word of letters: some text, not much longer; no table of Go's library is read.
-/
import Derived.Test.YtlbhebmjdaaglaaGreatDoorWd
import Derived.Test.YtlbhebmjdaaglaaGreatDoorSq
import Derived.Laws.BytesArg
import Derived.OwnWalk
import Derived.Lib.QuoteLoop
import Derived.Lib.BufSteps
import Derived.Laws.DeepStrings4
namespace Go.Proofs.YtlbhebmjdaaglaaGreatDoor
set_option linter.unusedSimpArgs false
set_option linter.unusedVariables false
open Go Go.RowKit
set_option maxRecDepth 100000

/-- A text in quotes, as numbers. -/
def quoted (s : ByteArray) : List Int := 34 :: (s.data.toList.map (fun x => (x.toNat : Int)) ++ [34])

theorem quoted_len (s : ByteArray) : (quoted s).length = s.size + 2 := by
  unfold quoted
  simp only [List.length_cons, List.length_append, List.length_map, Array.length_toList, List.length_nil]
  rfl

theorem bytes_cons {t : ByteArray} (h : 0 < t.size) : t.data.toList = t[0]'h :: (t.extract 1 t.size).data.toList := by
  rw [show (t.extract 1 t.size).data = t.data.extract 1 t.size from ByteArray.data_extract, Array.toList_extract, List.extract_eq_take_drop]
  have hl : t.data.toList.length = t.size := Array.length_toList
  rw [List.take_of_length_le (by rw [List.length_drop]; omega)]
  have hx := byte_at h
  cases hc : t.data.toList with
  | nil => rw [hc] at hl; simp at hl; omega
  | cons a l =>
    rw [hc] at hx
    simp only [List.getElem?_cons_zero, Option.some.injEq] at hx
    rw [hx]; rfl

/-- A text of letters alone. -/
def LetT (t : ByteArray) : Prop := ∀ x ∈ t.data.toList, 65 ≤ (x.toNat : Int) ∧ (x.toNat : Int) ≤ 122 ∧ (x.toNat : Int) ≠ 92

theorem letT_rest {t : ByteArray} (h : LetT t) (k : Nat) : LetT (t.extract k t.size) := by
  intro x hx
  refine h x ?_
  rw [show (t.extract k t.size).data = t.data.extract k t.size from ByteArray.data_extract, Array.toList_extract, List.extract_eq_take_drop] at hx
  exact List.mem_of_mem_drop (List.mem_of_mem_take hx)

theorem letT_word {s : ByteArray} (h : wordT s = true) : LetT s := by
  intro x hx
  unfold wordT at h
  rw [Bool.and_eq_true] at h
  have hb := List.all_eq_true.1 h.1 x hx
  have hi := loB_int x
  unfold letB at hb
  simp only [Bool.not_eq_true', Bool.or_eq_false_iff, decide_eq_false_iff_not] at hb
  by_cases hc : (65 : Int) ≤ x.toNat ∧ (x.toNat : Int) ≤ 90
  · refine ⟨hc.1, by omega, by omega⟩
  · rw [if_neg hc] at hi
    refine ⟨by omega, by omega, by omega⟩

theorem byte_info : (Tryz.prog.info? 5).map (fun i => (i.zero, i.size, i.bytes)) = some (some (.int .u8 0), 1, 1) := by kernel_rfl

set_option maxHeartbeats 800000 in
theorem appendRune_letter (B : Nat) (v : Value) (n : Nat) (xs : List Value) (c : Int) (W0 w : World) (hb : Lib.OwnBuf B 5 v n xs W0 w) (hn : n + 1 ≤ 140737488355328) (h1 : 65 ≤ c) (h2 : c ≤ 122) :
    Calls Tryz.prog 209 #[v, .int .i32 c] w fun e w' => ∃ v', e = .returned v' ∧ Lib.OwnBuf B 5 v' (n + 1) (xs ++ [.int .u8 c]) W0 w' := by
  obtain ⟨i0, hi, hz0, hz1, hz2⟩ := info_parts byte_info
  go_enter Tryz.func209, Tryz.ntmps209
  go_wp2_with (at_builtin; refine Lib.wpList_append_byte rfl _ _ 67 rfl B 5 i0 Tryz.underlying67 hi hz0 hz1 hz2 _ _ _ rfl W0 _ _ (by assumption) rfl (by omega) ?_; intro _ _ hb)
  go_ret
  exact ⟨_, rfl, hb⟩

theorem isPrint_letter (c : Int) (w : World) (h1 : 65 ≤ c) (h2 : c ≤ 122) : Calls Tryz.prog 207 #[.int .i32 c] w (fun e w' => e = .returned (.bool true) ∧ w' = w) := by
  go_enter Tryz.func207, Tryz.ntmps207
  go_wp2
  go_ret
  exact ⟨rfl, rfl⟩

set_option maxHeartbeats 1600000 in
theorem escaped_letter (B : Nat) (v : Value) (n : Nat) (xs : List Value) (c : Int) (W0 w : World) (hb : Lib.OwnBuf B 5 v n xs W0 w) (hn : n + 1 ≤ 140737488355328) (h1 : 65 ≤ c) (h2 : c ≤ 122) (h3 : c ≠ 92) :
    Calls Tryz.prog 206 #[v, .int .i32 c, .int .u8 34, .bool false, .bool false] w fun e w' => ∃ v', e = .returned v' ∧ Lib.OwnBuf B 5 v' (n + 1) (xs ++ [.int .u8 c]) W0 w' := by
  have HP := Lib.hid (fun w' => isPrint_letter c w' h1 h2)
  have HA := Lib.hid (appendRune_letter B v n xs c W0 w hb hn h1 h2)
  have e1 : (c == 34) = false := by rw [beq_eq_false_iff_ne]; omega
  have e2 : (c == 92) = false := by rw [beq_eq_false_iff_ne]; omega
  clear hb
  go_enter Tryz.func206, Tryz.ntmps206
  go_wp2_with fail
  refine (HP.out _).mono ?_
  rintro e w1 ⟨rfl, rfl⟩
  go_wp2_with fail
  refine HA.out.mono ?_
  rintro e w2 ⟨v2, rfl, hb2⟩
  go_wp2
  go_ret
  exact ⟨_, rfl, hb2⟩

theorem buf_ext {B : Nat} {e : TypeId} {v : Value} {n : Nat} {xs : List Value} {W0 w w' : World} (h : Lib.OwnBuf B e v n xs W0 w) (hb : Below w.heap.size w w') : Lib.OwnBuf B e v n xs W0 w' :=
  ⟨h.1.kept (row := none) ⟨hb.os, hb.tape, hb.output, hb.size, fun k hk _ => hb.block k hk⟩ (by cases hv : v.ownBlock <;> simp), h.2.1.trans ⟨hb.os, hb.tape, hb.output, hb.size, fun k hk => hb.block k (Nat.lt_of_lt_of_le hk h.2.2)⟩, Nat.le_trans h.2.2 hb.size⟩

set_option maxHeartbeats 6400000 in
/-- appendQuotedWith of a text of letters, into a buffer with room. -/
theorem appendQuoted_letters (c : Nat) (s : ByteArray) (W0 w : World) (a : Option Addr) (hb : Lib.OwnBuf W0.heap.size 5 (.slice a 0 c) 0 [] W0 w) (hroom : s.size ≤ c) (hc : c ≤ 9223372036854775807) (hs : s.size ≤ 1000000000) (hl : LetT s) :
    Calls Tryz.prog 205 #[.slice a 0 c, .string s, .int .u8 34, .bool false, .bool false] w fun e w' => ∃ (v' : Value), e = .returned v' ∧ Lib.OwnBuf W0.heap.size 5 v' (quoted s).length (Lib.intCells (quoted s)) W0 w' := by
  obtain ⟨i0, hi, hz0, hz1, hz2⟩ := info_parts byte_info
  obtain ⟨B, hB⟩ : ∃ B, B = W0.heap.size := ⟨_, rfl⟩
  rw [← hB] at hb ⊢
  clear hB
  have hroom' : ¬ ((c : Int) < (s.size : Int)) := by omega
  go_enter Tryz.func205, Tryz.ntmps205
  go_wp2_with (at_builtin; refine Lib.wpList_append_byte rfl _ _ 67 rfl B 5 i0 Tryz.underlying67 hi hz0 hz1 hz2 _ _ _ rfl W0 _ _ (by assumption) rfl (by omega) ?_; intro _ _ hb)
  have HB := Lib.hid hb
  have HLs := Lib.hid hl
  clear hb hl hroom hroom'
  go_loopw [0, 1, 12, 13] (fun vb vs _ _ wr => ∃ (rest : ByteArray) (acc : List Int), vs = .string rest ∧ Hid (LetT rest) ∧ Hid (acc ++ rest.data.toList.map (fun x => (x.toNat : Int)) = s.data.toList.map (fun x => (x.toNat : Int))) ∧ acc.length + rest.size = s.size ∧ Hid (Lib.OwnBuf B 5 vb (1 + acc.length) ([.int .u8 34] ++ Lib.intCells acc) W0 wr)) (fun _ vs _ _ _ => match vs with | .string r => r.size | _ => 0)
  case atStart => exact ⟨s, [], rfl, HLs, Lib.hid (by simp), by simp, by simpa [Hid, Lib.intCells] using HB⟩
  case round =>
    obtain ⟨rest, acc, rfl, hlr, heq, hlen, hbr⟩ := hrel
    by_cases h0 : 0 < rest.size
    · have hx := byte_at h0
      obtain ⟨l1, l2, l3⟩ := hlr.out _ (List.mem_of_getElem? hx)
      have cD := Lib.hid (fun w' => Tryz.utf8_DecodeRuneInString_ascii rest (rest[0]'h0) w' hx (by omega))
      have hn : 1 + acc.length + 1 ≤ 140737488355328 := by omega
      clear hx
      go_wp2_with fail
      refine (cD.out _).mono ?_
      rintro e w1 ⟨rfl, rfl⟩
      have cE := fun u0 (h : Lib.OwnBuf B 5 u0 (1 + acc.length) ([.int .u8 34] ++ Lib.intCells acc) W0 w1) => escaped_letter B u0 (1 + acc.length) ([.int .u8 34] ++ Lib.intCells acc) (rest[0]'h0).toNat W0 w1 h hn l1 l2 l3
      have HE := Lib.hid (cE _ hbr.out)
      clear cE
      have hb65 : ((((rest[0]'h0).toNat : Int)) == 65533) = false := by rw [beq_eq_false_iff_ne]; omega
      go_wp2_with fail
      refine HE.out.mono ?_
      rintro e w2 ⟨v2, rfl, hb2⟩
      have hsz : (rest.extract 1 rest.size).size = rest.size - 1 := Lib.size_rest rest 1
      have HL2 := Lib.hid (letT_rest hlr.out 1)
      have HQ2 : Hid ((acc ++ [((rest[0]'h0).toNat : Int)]) ++ (rest.extract 1 rest.size).data.toList.map (fun x => (x.toNat : Int)) = s.data.toList.map (fun x => (x.toNat : Int))) := by
        refine Lib.hid ?_
        rw [← heq.out, bytes_cons h0, List.map_cons, List.append_assoc]; rfl
      have HB2 := Lib.hid hb2
      clear hb2
      go_wp2
      go_roundw
      case rel => exact ⟨_, acc ++ [((rest[0]'h0).toNat : Int)], rfl, HL2, HQ2, by simp; omega, by simpa [Hid, Lib.intCells, Nat.add_assoc] using HB2⟩
      case measure => simp only []; omega
    · have hb := hbr.out
      have h0' : ¬ ((rest.size : Int) > 0) := by omega
      have hn : 1 + acc.length + 1 ≤ 140737488355328 := by omega
      go_wp2_with (at_builtin; refine Lib.wpList_append_byte rfl _ _ 67 rfl B 5 i0 Tryz.underlying67 hi hz0 hz1 hz2 _ _ _ rfl W0 _ _ (by assumption) rfl (by omega) ?_; intro vv ww hb)
      have hq : 34 :: (acc ++ [34]) = quoted s := by
        have h1 := heq.out
        rw [List.eq_nil_of_length_eq_zero (show rest.data.toList.length = 0 by rw [Array.length_toList]; show rest.size = 0; omega)] at h1
        unfold quoted
        rw [← h1]; simp
      have hfin : Lib.OwnBuf B 5 vv (quoted s).length (Lib.intCells (quoted s)) W0 ww := by
        rw [← hq]
        simpa [Lib.intCells, Nat.add_assoc, Nat.add_comm, Nat.add_left_comm] using hb
      exact bodyPost_ret (v := vv) (by simp [results, Tryz.results205, go_sem, *]) rfl ⟨vv, rfl, hfin⟩

theorem buf_cells {B : Nat} {e : TypeId} {v : Value} {l : List Int} {W0 w : World} (h : Lib.OwnBuf B e v l.length (Lib.intCells l) W0 w) (hl : 0 < l.length) :
    ∃ g cap, v = .slice (some ⟨g, 0, none⟩) l.length cap ∧ ∀ i, i < l.length → w.cell? ⟨g, 0 + i, none⟩ = some (.int .u8 (l.getD i 0)) := by
  rcases h.1.2 with ⟨_, h0⟩ | ⟨g, cap, cur, fz, rfl, _⟩
  · omega
  · refine ⟨g, cap, by simp, fun i hi => ?_⟩
    have := h.1.cells (g := g) (by simp [Value.ownBlock]) i (.int .u8 (l.getD i 0)) (by simp [Lib.intCells, List.getD, List.getElem?_eq_getElem hi])
    by_cases hi0 : i = 0 <;> simpa [Addr.add, hi0] using this

set_option maxHeartbeats 3200000 in
theorem quoteWith_letters (s : ByteArray) (w : World) (hs : s.size ≤ 1000000000) (h2 : 2 ≤ s.size) (hl : LetT s) :
    Calls Tryz.prog 204 #[.string s, .int .u8 34, .bool false, .bool false] w fun e w' => e = .returned (.string (strOfNums (quoted s))) ∧ Ext w w' := by
  obtain ⟨i0, hi, hz0, hz1, hz2⟩ := info_parts byte_info
  obtain ⟨c, hc⟩ : ∃ c, c = 3 * s.size / 2 := ⟨_, rfl⟩
  have hcI : 3 * (s.size : Int) / 2 = (c : Int) := by omega
  have hc1 : s.size ≤ c := by omega
  have hc2 : c ≤ 140737488355328 := by omega
  have cQ := Lib.hid (fun w1 (h : Lib.OwnBuf w.heap.size 5 (.slice (some ⟨w.heap.size, 0, none⟩) 0 c) 0 [] w w1) => appendQuoted_letters c s w w1 _ h hc1 (by omega) hs hl)
  clear hc hl
  go_enter Tryz.func204, Tryz.ntmps204
  go_wp2_with (first
    | (at_make; refine wpList_make_own _ rfl _ _ 67 rfl w.heap.size 5 i0 (.int .u8 0) 1 Tryz.underlying67 hi hz0 hz1 _ _ _ c rfl rfl (by first | rfl | assumption) (by rw [hz2]; omega) (by unfold maxLen; omega) (Nat.le_refl _) ?_; intro w1 hown hg)
    | (go_at_call 205; refine (cQ.out _ ⟨World.ownsRowF_of hown, (Below.refl _ _).grown hg (Nat.le_refl _) (by intro k hk; cases hk), hg.size⟩).mono ?_; rintro e w2 ⟨v2, rfl, hb2⟩))
  obtain ⟨g, cap, rfl, hcells⟩ := buf_cells hb2 (by rw [quoted_len]; omega)
  have hcv := run_convert_bytes_arg w2 67 5 Tryz.underlying67 Tryz.underlying5 g 0 _ cap (quoted s) rfl hcells 9 Tryz.underlying9
  rw [hcv]
  go_wp2
  exact bodyPost_ret (v := .string (strOfNums (quoted s))) (by simp [results, Tryz.results204, go_sem, *]) rfl ⟨rfl, hb2.2.1⟩

theorem quote_letters (s : ByteArray) (w : World) (hs : s.size ≤ 1000000000) (h2 : 2 ≤ s.size) (hl : LetT s) :
    Calls Tryz.prog 203 #[.string s] w fun e w' => e = .returned (.string (strOfNums (quoted s))) ∧ Ext w w' := by
  have HQ := Lib.hid (fun w' => quoteWith_letters s w' hs h2 hl)
  clear hl
  go_enter Tryz.func203, Tryz.ntmps203
  go_wp2_with fail
  refine (HQ.out _).mono ?_
  rintro e w1 ⟨rfl, hb⟩
  go_wp2
  exact bodyPost_ret (v := .string (strOfNums (quoted s))) (by simp [results, Tryz.results203, go_sem, *]) rfl ⟨rfl, hb⟩

theorem strOf_size (l : List Int) : (strOfNums l).size = l.length := by
  unfold strOfNums; simp [ByteArray.size]
end Go.Proofs.YtlbhebmjdaaglaaGreatDoor
