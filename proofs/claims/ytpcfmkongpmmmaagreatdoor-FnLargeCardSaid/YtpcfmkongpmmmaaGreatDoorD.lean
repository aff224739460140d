/-
  Flat, First, doubtful, numbers over lists of single values.
-/
import Derived.Test.YtpcfmkongpmmmaaGreatDoorC
namespace Go.Proofs.YtpcfmkongpmmmaaGreatDoor
set_option linter.unusedSimpArgs false
set_option linter.unusedVariables false
open Go Go.RowKit
set_option maxRecDepth 100000

set_option maxHeartbeats 800000 in
/-- Flat of single values: a copy of them. -/
theorem flat_scalars (xs : List Sc) (b o c : Nat) (w : World) (hl : xs.length ≤ 1000000000) (hx : Lie w b o xs) (hk : ∀ x ∈ xs, x.k ≠ 5) :
    Calls Tryz.prog 22 #[.slice (some ⟨b, o, none⟩) xs.length c] w fun e w' => ∃ v, e = .returned v ∧ Owns w' w.heap.size v xs ∧ Ext w w' := by
  have HX := Lib.hid hx; clear hx
  have HK := Lib.hid hk; clear hk
  go_enter Tryz.func22, Tryz.ntmps22
  go_wp2
  go_loopw [3, 4] (fun v i wr => ∃ k : Nat, k ≤ xs.length ∧ i = .int .i64 k ∧ Ext w wr ∧ Owns wr w.heap.size v (xs.take k)) (fun _ i _ => xs.length - (intOf i).toNat)
  case atStart => exact ⟨0, Nat.zero_le _, rfl, Below.refl _ _, Owns.nil _ _⟩
  case round =>
    obtain ⟨k, hk, rfl, hb, hown⟩ := hrel
    by_cases hlt : k < xs.length
    · obtain ⟨x, Hx⟩ := elem_at hlt
      obtain ⟨c0, c1, c2, c3, c4⟩ := (HX.out.ext hb) k x Hx.out
      have hk5 : (x.k != 5) = true := by rw [bne_iff_ne]; exact HK.out x (mem_at Hx)
      have HO := Lib.hid hown; clear hown
      go_wp2_with (at_builtin; refine append_vals rfl _ _ rfl w.heap.size _ (xs.take k) rfl (HO.out.alloc _) wr.heap.size 0 1 [x] rfl (lie_one wr x) (by simp; omega) (by have := hb.size; simp; omega) ?_; intro v' w1 hown1 hg1)
      have hb1 : Ext w w1 := Below.grown (hb.al _) hg1 (by have := hb.size; simp; omega) HO.out.below
      have HO1 := Lib.hid hown1; clear hown1
      go_roundw
      case rel => exact ⟨k + 1, by omega, by go_num, hb1, by rw [take_succ_at Hx]; exact HO1.out⟩
      case measure => simp [intOf]; omega
    · go_wp2
      go_ret
      refine ⟨_, rfl, ?_, hb⟩
      rw [List.take_of_length_le (by omega)] at hown
      exact hown

/-- A value as the machine has it: with the slice of its Rows. -/
structure Mc where
  k : Int
  n : Int
  d : Int
  t : ByteArray
  ra : Option Addr
  rl : Nat
  rc : Nat

def Mc.sc (x : Mc) : Sc := ⟨x.k, x.n, x.d, x.t⟩

def At5m (w : World) (b o : Nat) (x : Mc) : Prop :=
  w.cell? ⟨b, o, none⟩ = some (.int .i64 x.k) ∧ w.cell? ⟨b, o + 1, none⟩ = some (.int .i64 x.n) ∧ w.cell? ⟨b, o + 2, none⟩ = some (.int .i64 x.d) ∧
  w.cell? ⟨b, o + 3, none⟩ = some (.string x.t) ∧ w.cell? ⟨b, o + 4, none⟩ = some (.slice x.ra x.rl x.rc)

theorem At5m.ext {w w' : World} {b o : Nat} {x : Mc} (h : At5m w b o x) (hb : Ext w w') : At5m w' b o x :=
  ⟨hb.get h.1, hb.get h.2.1, hb.get h.2.2.1, hb.get h.2.2.2.1, hb.get h.2.2.2.2⟩

/-- What Flat makes of a slice of values. -/
def FlatGives (w : World) (xs : List Sc) (e : Ending) (w' : World) : Prop := ∃ v, e = .returned v ∧ Owns w' w.heap.size v xs ∧ Ext w w'

/-- A value that is no matrix has no Rows; of a matrix each row is a slice of which Flat makes row (none is empty). -/
def RowsOk (w : World) (x : Mc) (rows : List (List Sc)) : Prop :=
  (x.k ≠ 5 → x.ra = none ∧ x.rl = 0 ∧ x.rc = 0) ∧ (x.k = 5 → x.rl = rows.length ∧ rows.length ≤ 1000000000 ∧ ∀ i row, rows[i]? = some row → row ≠ [] ∧
    ∃ b o sa sn sc, x.ra = some ⟨b, o, none⟩ ∧ w.cell? ⟨b, o + i, none⟩ = some (.slice sa sn sc) ∧ ∀ w', Ext w w' → Calls Tryz.prog 22 #[.slice sa sn sc] w' (FlatGives w' row))

def outOf (y : Mc × List (List Sc)) : List Sc := if y.1.k = 5 then y.2.flatten else [y.1.sc]

theorem append_len {α : Type} {xs ys : List α} {N : Nat} (h : (xs ++ ys).length ≤ N) : xs.length + ys.length ≤ N := by rwa [List.length_append] at h

theorem flatten_take_succ {α : Type} {rows : List (List α)} {i : Nat} {row : List α} (h : Hid (rows[i]? = some row)) : (rows.take (i + 1)).flatten = (rows.take i).flatten ++ row := by
  rw [take_succ_at h, List.flatten_append]; simp

theorem flatten_take_le {α : Type} (rows : List (List α)) (i : Nat) : (rows.take i).flatten.length ≤ rows.flatten.length := by
  have h : rows.flatten = (rows.take i).flatten ++ (rows.drop i).flatten := by rw [← List.flatten_append, List.take_append_drop]
  rw [h, List.length_append]; omega

theorem flatMap_take_le {α β : Type} (f : α → List β) (xs : List α) (i : Nat) : ((xs.take i).flatMap f).length ≤ (xs.flatMap f).length := by
  have h : xs.flatMap f = (xs.take i).flatMap f ++ (xs.drop i).flatMap f := by rw [← List.flatMap_append, List.take_append_drop]
  rw [h, List.length_append]; omega

set_option maxHeartbeats 2000000 in
/-- Flat, one round over a matrix: its rows one behind the other. -/
theorem flat_gen (ys : List (Mc × List (List Sc))) (b o c : Nat) (w : World) (hl : ys.length ≤ 1000000000) (hx : ∀ i y, ys[i]? = some y → At5m w b (o + i * 5) y.1 ∧ RowsOk w y.1 y.2)
    (hN : (ys.flatMap outOf).length ≤ 100000000000) :
    Calls Tryz.prog 22 #[.slice (some ⟨b, o, none⟩) ys.length c] w (FlatGives w (ys.flatMap outOf)) := by
  have HX := Lib.hid hx; clear hx
  have HN := Lib.hid hN; clear hN
  go_enter Tryz.func22, Tryz.ntmps22
  go_wp2
  go_loopw [3, 4, 5] (fun v i _ wr => ∃ k : Nat, k ≤ ys.length ∧ i = .int .i64 k ∧ Ext w wr ∧ Owns wr w.heap.size v ((ys.take k).flatMap outOf)) (fun _ i _ _ => ys.length - (intOf i).toNat)
  case atStart => exact ⟨0, Nat.zero_le _, rfl, Below.refl _ _, Owns.nil _ _⟩
  case round =>
    obtain ⟨k, hk, rfl, hb, hown⟩ := hrel
    have HO := Lib.hid hown; clear hown
    by_cases hlt : k < ys.length
    · obtain ⟨y, Hy⟩ := elem_at hlt
      obtain ⟨hat, hrows⟩ := HX.out k y Hy.out
      obtain ⟨c0, c1, c2, c3, c4⟩ := hat.ext hb
      have hlen := Nat.le_trans (flatMap_take_le outOf ys (k + 1)) HN.out
      rw [take_succ_at Hy, List.flatMap_append, List.flatMap_singleton] at hlen
      have HL := Lib.hid hlen; clear hlen
      by_cases h5 : y.1.k = 5
      · have HR := Lib.hid hrows; clear hrows
        obtain ⟨hrl, hrl2, hrow⟩ := HR.out.2 h5
        have HW := Lib.hid hrow; clear hrow
        have ho : outOf y = y.2.flatten := if_pos h5
        have HO5 := Lib.hid ho; clear ho
        have hk5 : (y.1.k != 5) = false := by rw [h5]; rfl
        rw [h5] at c0
        have H5 := Lib.hid h5; clear h5
        have HRL := Lib.hid hrl; clear hrl
        rw [HO5.out] at HL
        clear c0 c1 c2 c3 c4
        have c0 : wr.cell? ⟨b, o + k * 5, none⟩ = some (.int .i64 5) := by rw [← H5.out]; exact (hat.ext hb).1
        have hat' := Lib.hid hat; clear hat
        go_wp2
        go_loopw [3, 5] (fun v i wq => ∃ j : Nat, j ≤ y.2.length ∧ i = .int .i64 j ∧ Ext w wq ∧ Owns wq w.heap.size v ((ys.take k).flatMap outOf ++ (y.2.take j).flatten)) (fun _ i _ => y.2.length - (intOf i).toNat)
        case atStart => exact ⟨0, Nat.zero_le _, rfl, hb, by simpa using HO.out⟩
        case round =>
          obtain ⟨j, hj, rfl, hbq, hownq⟩ := hrel
          have HOQ := Lib.hid hownq; clear hownq
          have c4 := (hat'.out.ext hbq).2.2.2.2
          rw [HRL.out] at c4
          have c0q := (hat'.out.ext hbq).1
          rw [H5.out] at c0q
          by_cases hjlt : j < y.2.length
          · obtain ⟨row, Hrow⟩ := elem_at hjlt
            obtain ⟨hne, b1, o1, sa, sn, sc, hra, hcell, hcall⟩ := HW.out j row Hrow.out
            rw [hra] at c4
            have cr := hbq.get hcell
            have HC := Lib.hid (hcall _ hbq)
            have HNE := Lib.hid hne
            have hfl : ((y.2.take j).flatten).length + row.length ≤ y.2.flatten.length := by
              have := flatten_take_le y.2 (j + 1)
              rw [flatten_take_succ Hrow, List.length_append] at this
              exact this
            have hfl2 := append_len HL.out
            clear hra hcell hcall hne
            go_wp2_with fail
            refine (HC.out).mono ?_
            rintro e w1 ⟨v2, rfl, hown2, hb2⟩
            obtain ⟨g, cap, rfl, hg, hlie⟩ := hown2.lie HNE.out
            have hown1 := Lib.hid (HOQ.out.ext hb2)
            have hsz := (hbq.tr hb2).size
            have hln : ((ys.take k).flatMap outOf ++ (y.2.take j).flatten).length + row.length ≤ 1000000000000 := by rw [List.length_append]; omega
            have HLN := Lib.hid hln; clear hln hfl2 hfl
            have hlie' := Lib.hid hlie; clear hlie hown2
            go_wp2_with (at_builtin; refine append_vals rfl _ _ rfl w.heap.size _ ((ys.take k).flatMap outOf ++ (y.2.take j).flatten) rfl hown1.out g 0 cap row rfl hlie'.out HLN.out hsz ?_; intro v' w2 hown3 hg3)
            have hb3 : Ext w w2 := Below.grown (hbq.tr hb2) hg3 hsz hown1.out.below
            have HO3 := Lib.hid hown3; clear hown3
            go_roundw
            case rel => exact ⟨j + 1, by omega, by go_num, hb3, by rw [flatten_take_succ Hrow, ← List.append_assoc]; exact HO3.out⟩
            case measure => simp [intOf]; omega
          · go_wp2
            go_roundw
            case rel => exact ⟨k + 1, by omega, by go_num, hbq, by
              have := HOQ.out
              rw [List.take_of_length_le (by omega : y.2.length ≤ j)] at this
              rw [take_succ_at Hy, List.flatMap_append, List.flatMap_singleton, HO5.out]; exact this⟩
            case measure => simp [intOf]; omega
      · have hz := hrows.1 h5
        obtain ⟨hz1, hz2, hz3⟩ := hz
        have ho : outOf y = [y.1.sc] := if_neg h5
        have hk5 : (y.1.k != 5) = true := by rw [bne_iff_ne]; exact h5
        rw [hz1, hz2, hz3] at c4
        have HO5 := Lib.hid ho
        rw [ho] at HL
        clear ho hz1 hz2 hz3 h5 hrows
        go_wp2_with (at_builtin; refine append_vals rfl _ _ rfl w.heap.size _ ((ys.take k).flatMap outOf) rfl (HO.out.alloc _) wr.heap.size 0 1 [y.1.sc] rfl (lie_one wr y.1.sc) (by have := append_len HL.out; simp at this ⊢; omega) (by have := hb.size; simp; omega) ?_; intro v' w1 hown1 hg1)
        have hb1 : Ext w w1 := Below.grown (hb.al _) hg1 (by have := hb.size; simp; omega) HO.out.below
        have HO1 := Lib.hid hown1; clear hown1
        go_roundw
        case rel => exact ⟨k + 1, by omega, by go_num, hb1, by rw [take_succ_at Hy, List.flatMap_append, List.flatMap_singleton, HO5.out]; exact HO1.out⟩
        case measure => simp [intOf]; omega
    · go_wp2
      go_ret
      refine ⟨_, rfl, ?_, hb⟩
      have := HO.out
      rw [List.take_of_length_le (by omega)] at this
      exact this

end Go.Proofs.YtpcfmkongpmmmaaGreatDoor
