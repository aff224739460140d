/-
  setDigits: a number's digits into a row of bytes.
-/
import Derived.Test.YtlbhebmjdaaglaaGreatDoorFt4
import Derived.Test.YtlbhebmjdaaglaaGreatDoorSq
import Derived.Sort.Row
namespace Go.Proofs.YtlbhebmjdaaglaaGreatDoor
set_option linter.unusedSimpArgs false
set_option linter.unusedVariables false
open Go Go.RowKit
open Go.Sort (Holds putRow)
set_option maxRecDepth 100000

/-- The bytes of a row. -/
def BRow (w : World) (R n : Nat) (f : Nat → Nat) : Prop := ∀ t, t < n → w.cell? ⟨R, t, none⟩ = some (.int .u8 (f t))

theorem BRow.ext {w w' : World} {R n : Nat} {f : Nat → Nat} (h : BRow w R n f) (hb : Ext w w') : BRow w' R n f := fun t ht => hb.get (h t ht)

abbrev encB (b : UInt8) : Value := .int .u8 (b.toNat : Int)

theorem dg_nat (u nd t : Nat) (h : t < nd) : (Lib.dg u (nd - 1 - t)).toNat = Ff.dgt u nd t := by
  unfold Lib.dg Ff.dgt
  rw [UInt8.toNat_ofNat']
  omega

theorem put_keeps {w : World} {R n : Nat} {d : Array UInt8} : Keeps [R] w ((putRow encB w R 0 d).drewN n) := by
  refine ⟨rfl, rfl, rfl, by simp [World.drewN], fun k _ hk => ?_⟩
  have hne : R ≠ k := by intro e; subst e; simp at hk
  show (w.heap.modify R _)[k]? = _
  rw [Array.getElem?_modify, if_neg hne]

set_option maxHeartbeats 3200000 in
theorem setDigits_ok (R nd d : Nat) (p : Int) (d0 : Array UInt8) (w : World) (hH : Holds encB w R 0 d0) (h32 : d0.size = 32) (hd : d < 10 ^ nd) (hd64 : d < 18446744073709551616) (hnd : nd ≤ 20) (hp1 : -100000 ≤ p) (hp2 : p ≤ 100000) :
    Calls Tryz.prog 120 #[.slice (some ⟨R, 0, none⟩) 32 32, .int .u64 d, .int .i64 p, .int .i64 nd] w fun e w' =>
      e = .returned (.tuple #[.int .i64 ((nd : Int) + p), .int .i64 (Ff.strip (Ff.dgt d nd) nd)]) ∧ BRow w' R nd (Ff.dgt d nd) ∧ Keeps [R] w w' := by
  obtain ⟨dn, hdn, hHn⟩ : ∃ dn : Array UInt8, dn.size = nd ∧ Holds encB w R 0 dn := by
    refine ⟨d0.extract 0 nd, by simp; omega, fun j hj => ?_⟩
    have hj' : j < nd := by simp at hj; omega
    have h := hH j (by omega)
    rw [show (d0.extract 0 nd)[j]! = d0[j]! by
      rw [getElem!_pos (d0.extract 0 nd) j hj, getElem!_pos d0 j (by omega), Array.getElem_extract]; simp]
    exact h
  have hf := Tryz.internal_strconv_formatBase10 R 0 32 d dn w hHn (by rw [hdn]; exact hd) hd64 (by omega)
  rw [hdn] at hf
  have HF := Lib.hid hf
  clear hf hH
  have HHn := Lib.hid hHn
  clear hHn
  obtain ⟨f, hfd⟩ : ∃ f, Ff.dgt d nd = f := ⟨_, rfl⟩
  rw [hfd]
  have HFD := Lib.hid hfd
  clear hfd
  go_enter Tryz.func120, Tryz.ntmps120
  go_wp2_with fail
  refine HF.out.mono ?_
  rintro e w1 ⟨rfl, n, v', dk, hw1, hinv⟩
  have hsz := hinv.size
  have hrow : BRow w1 R nd f := fun t ht => by
    have h := Go.Sort.cell?_putRow encB w R 0 dn dk HHn.out (by rw [hsz, hdn]) t (by omega)
    rw [Nat.zero_add] at h
    rw [hw1]
    show (putRow encB w R 0 dk).cell? ⟨R, t, none⟩ = _
    rw [h, hinv.done t (Nat.zero_le _) ht]
    show some (Value.int .u8 ((Lib.dg d (nd - 1 - t)).toNat : Int)) = _
    rw [dg_nat d nd t ht, HFD.out]
  have hk1 : Keeps [R] w w1 := by rw [hw1]; exact put_keeps
  have HK := Lib.hid hk1
  clear hw1 hinv hsz hk1
  have HR := Lib.hid hrow
  go_wp2
  go_loopw [3] (fun v wr => ∃ k : Nat, v = .int .i64 k ∧ k ≤ nd ∧ wr = w1 ∧ Ff.strip f k = Ff.strip f nd) (fun v _ => (intOf v).toNat)
  case atStart => exact ⟨nd, rfl, Nat.le_refl _, rfl, rfl⟩
  case round =>
    obtain ⟨k, rfl, hk, rfl, hs⟩ := hrel
    have HS := Lib.hid hs
    clear hs
    cases k with
    | zero =>
      go_wp2
      go_ret2
      refine ⟨?_, HR.out, HK.out⟩
      rw [← HS.out]
      rfl
    | succ k =>
      have hc := hrow k (by omega)
      by_cases h48 : f k = 48
      · have hb : ((f k : Int) == 48) = true := by rw [h48]; rfl
        have HX := Lib.hid (show Ff.strip f (k + 1) = Ff.strip f k by rw [Ff.strip, if_pos h48])
        clear h48 hrow
        go_wp2
        exact ⟨⟨k, rfl, by omega, trivial, HX.out.symm.trans HS.out⟩, by simp [intOf]⟩
      · have hb : ((f k : Int) == 48) = false := by rw [beq_eq_false_iff_ne]; omega
        have HX := Lib.hid (show Ff.strip f (k + 1) = k + 1 by rw [Ff.strip, if_neg h48])
        clear h48 hrow
        go_wp2
        go_ret2
        refine ⟨?_, HR.out, HK.out⟩
        rw [← HS.out, HX.out]
        rfl
end Go.Proofs.YtlbhebmjdaaglaaGreatDoor
