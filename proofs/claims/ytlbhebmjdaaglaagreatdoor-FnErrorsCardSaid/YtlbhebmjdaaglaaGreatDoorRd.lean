/-
  Texts of the reference: lower, month, other, letters; Read of a word.
-/
import Derived.Test.YtlbhebmjdaaglaaGreatDoorUp
namespace Go.Proofs.YtlbhebmjdaaglaaGreatDoor
set_option linter.unusedSimpArgs false
set_option linter.unusedVariables false
open Go Go.RowKit
set_option maxRecDepth 100000

theorem loB_int (b : UInt8) : ((Lib.lowerB b).toNat : Int) = if (65 : Int) ≤ b.toNat ∧ (b.toNat : Int) ≤ 90 then (b.toNat : Int) + 32 else b.toNat := by
  have h := Lib.isUpperB_int b
  unfold Lib.lowerB
  by_cases h1 : (65 : Int) ≤ b.toNat ∧ (b.toNat : Int) ≤ 90
  · rw [h, if_pos (by simp [h1]), if_pos h1]
    rw [UInt8.toNat_add]; simp; omega
  · rw [h, if_neg (by simpa using h1), if_neg h1]

set_option maxHeartbeats 400000 in
theorem loB_ok (b : UInt8) (w : World) : Calls Tryz.prog 37 #[.int .u8 (b.toNat : Int)] w (Gives w (.int .u8 ((Lib.lowerB b).toNat : Int))) := by
  have hu := loB_int b
  have hlt : (b.toNat : Int) < 256 := by have := b.toNat_lt; omega
  by_cases h1 : (65 : Int) ≤ b.toNat
  · by_cases h2 : (b.toNat : Int) ≤ 90
    · rw [if_pos ⟨h1, h2⟩] at hu
      rw [hu]
      generalize (b.toNat : Int) = x at *
      clear hu
      go_enter Tryz.func37, Tryz.ntmps37
      go_wp2
      go_ret
      exact ⟨rfl, (by repeat (first | with_reducible exact Below.refl _ _ | with_reducible assumption | ((with_reducible refine Below.setCell ?_ ?_ _); rotate_left; (simp; try omega)) | (with_reducible refine Ext.tr ?_ (by with_reducible assumption)) | (with_reducible refine Ext.al ?_ _) | (with_reducible refine below_drewN ?_ _) | (with_reducible refine Below.drew ?_)))⟩
    · rw [if_neg (by omega)] at hu
      rw [hu]
      generalize (b.toNat : Int) = x at *
      clear hu
      go_enter Tryz.func37, Tryz.ntmps37
      go_wp2
      go_ret
      exact ⟨rfl, (by repeat (first | with_reducible exact Below.refl _ _ | with_reducible assumption | ((with_reducible refine Below.setCell ?_ ?_ _); rotate_left; (simp; try omega)) | (with_reducible refine Ext.tr ?_ (by with_reducible assumption)) | (with_reducible refine Ext.al ?_ _) | (with_reducible refine below_drewN ?_ _) | (with_reducible refine Below.drew ?_)))⟩
  · rw [if_neg (by omega)] at hu
    rw [hu]
    generalize (b.toNat : Int) = x at *
    clear hu
    go_enter Tryz.func37, Tryz.ntmps37
    go_wp2
    go_ret
    exact ⟨rfl, (by repeat (first | with_reducible exact Below.refl _ _ | with_reducible assumption | ((with_reducible refine Below.setCell ?_ ?_ _); rotate_left; (simp; try omega)) | (with_reducible refine Ext.tr ?_ (by with_reducible assumption)) | (with_reducible refine Ext.al ?_ _) | (with_reducible refine below_drewN ?_ _) | (with_reducible refine Below.drew ?_)))⟩

/-- A text in small letters. -/
def lowT (s : ByteArray) : ByteArray := ⟨(s.data.toList.map Lib.lowerB).toArray⟩

set_option maxHeartbeats 800000 in
theorem lower_ok (s : ByteArray) (w : World) (hs : s.size ≤ 1000000000) : Calls Tryz.prog 38 #[.string s] w (Gives w (.string (lowT s))) := by
  have hconv := fun w => run_bytes_of_string (P := Tryz.prog) w 9 67 5 s Tryz.underlying9 Tryz.underlying67 Tryz.underlying5
  go_enter Tryz.func38, Tryz.ntmps38
  go_wp2_with fail
  have hB : Bys ((w.alloc (.cells (bytesRow s (grownCap w s.size 0 5)) 5 ((bytesRow s (grownCap w s.size 0 5)).size, (bytesRow s (grownCap w s.size 0 5)).size + 1))).drew) w.heap.size s.data.toList := Bys.new w.drew s _ _
  have hE : Ext w ((w.alloc (.cells (bytesRow s (grownCap w s.size 0 5)) 5 ((bytesRow s (grownCap w s.size 0 5)).size, (bytesRow s (grownCap w s.size 0 5)).size + 1))).drew) := (by repeat (first | with_reducible exact Below.refl _ _ | with_reducible assumption | ((with_reducible refine Below.setCell ?_ ?_ _); rotate_left; (simp; try omega)) | (with_reducible refine Ext.tr ?_ (by with_reducible assumption)) | (with_reducible refine Ext.al ?_ _) | (with_reducible refine below_drewN ?_ _) | (with_reducible refine Below.drew ?_)))
  have hsz0 : w.heap.size < ((w.alloc (.cells (bytesRow s (grownCap w s.size 0 5)) 5 ((bytesRow s (grownCap w s.size 0 5)).size, (bytesRow s (grownCap w s.size 0 5)).size + 1))).drew).heap.size := by simp
  clear hconv
  generalize (w.alloc (.cells (bytesRow s (grownCap w s.size 0 5)) 5 ((bytesRow s (grownCap w s.size 0 5)).size, (bytesRow s (grownCap w s.size 0 5)).size + 1))).drew = w0 at *
  generalize grownCap w s.size 0 5 = cap at *
  have hlen : s.data.toList.length = s.size := by simp
  rw [← mid_zero Lib.lowerB s.data.toList] at hB
  have HB := Lib.hid hB; clear hB
  go_loopw [4] (fun i wr => ∃ k : Nat, k ≤ s.size ∧ i = .int .i64 k ∧ Ext w wr ∧ w.heap.size < wr.heap.size ∧ Bys wr w.heap.size (mid Lib.lowerB s.data.toList k)) (fun i _ => s.size - (intOf i).toNat)
  case atStart => exact ⟨0, Nat.zero_le _, rfl, hE, hsz0, HB.out⟩
  case round =>
    obtain ⟨k, hk, rfl, hb, hsz, hby⟩ := hrel
    have HY := Lib.hid hby; clear hby
    by_cases hlt : k < s.size
    · have hx := byte_at hlt
      obtain ⟨c0, f0⟩ := HY.out k _ (mid_at hx)
      have HX := Lib.hid hx; clear hx
      generalize s[k]'hlt = x at *
      go_wp2_with fail
      refine (loB_ok x _).mono ?_
      rintro e w1 ⟨rfl, hb1⟩
      have HY1 := Lib.hid (HY.out.ext hb1)
      obtain ⟨c1, f1⟩ := HY1.out k _ (mid_at HX.out)
      have hb2 := hb.tr hb1
      have hsz1 := hb1.size
      go_wp2
      go_roundw
      case rel =>
        refine ⟨k + 1, by omega, by go_num, ?_, ?_, ?_⟩
        · repeat (first | with_reducible exact Below.refl _ _ | with_reducible assumption | ((with_reducible refine Below.setCell ?_ ?_ _); rotate_left; (simp; try omega)) | (with_reducible refine Ext.tr ?_ (by with_reducible assumption)) | (with_reducible refine Ext.al ?_ _) | (with_reducible refine below_drewN ?_ _) | (with_reducible refine Below.drew ?_))
        · simp; omega
        · rw [mid_succ HX.out]
          exact HY1.out.set (by rw [mid_len]; omega) _
      case measure => simp [intOf]; omega
    · have hfin := HY.out
      rw [mid_all _ _ _ (by omega)] at hfin
      have hback := run_convert_bytes_back (P := Tryz.prog) wr 67 9 5 ⟨w.heap.size, 0, none⟩ cap (s.data.toList.map Lib.lowerB) Tryz.underlying67 Tryz.underlying5 Tryz.underlying9 (fun j hj => by
        rw [add_zero]
        exact (hfin j _ (List.getElem?_eq_getElem hj)).1)
      rw [List.length_map, hlen] at hback
      clear hfin
      go_wp2
      exact bodyPost_ret (v := .string ⟨(s.data.toList.map Lib.lowerB).toArray⟩) (by simp [results, Tryz.results38, go_sem, *]) rfl ⟨rfl, (by repeat (first | with_reducible exact Below.refl _ _ | with_reducible assumption | ((with_reducible refine Below.setCell ?_ ?_ _); rotate_left; (simp; try omega)) | (with_reducible refine Ext.tr ?_ (by with_reducible assumption)) | (with_reducible refine Ext.al ?_ _) | (with_reducible refine below_drewN ?_ _) | (with_reducible refine Below.drew ?_)))⟩

/-- The first three letters of a month's or a day's name. -/
def monthT (l : List UInt8) : Bool := l == [106, 97, 110] || l == [102, 101, 98] || l == [109, 97, 114] || l == [97, 112, 114] || l == [109, 97, 121] || l == [106, 117, 110] || l == [106, 117, 108] || l == [97, 117, 103] || l == [115, 101, 112] || l == [111, 99, 116] || l == [110, 111, 118] || l == [100, 101, 99] || l == [109, 111, 110] || l == [116, 117, 101] || l == [119, 101, 100] || l == [116, 104, 117] || l == [102, 114, 105] || l == [115, 97, 116] || l == [115, 117, 110]

/-- A byte that is a letter. -/
def letB (b : UInt8) : Bool := !(decide (((Lib.lowerB b).toNat : Int) < 97) || decide ((122 : Int) < ((Lib.lowerB b).toNat : Int)))

/-- Words that could be read as a number, or as something else. -/
def oddWord (l : List UInt8) : Bool := l == [] || l == [101] || l == [110, 97, 110] || l == [105, 110, 102] || l == [105, 110, 102, 105, 110, 105, 116, 121] || l == [116, 114, 117, 101] || l == [102, 97, 108, 115, 101] || l == [97, 109] || l == [112, 109] || l == [97] || l == [112]

/-- A text of letters that is surely no number. -/
def wordT (s : ByteArray) : Bool := s.data.toList.all letB && (!oddWord (lowT s).toList && (decide (2 ≤ s.size) && !(decide (3 ≤ (lowT s).size) && monthT ((lowT s).extract 0 3).toList)))
end Go.Proofs.YtlbhebmjdaaglaaGreatDoor
