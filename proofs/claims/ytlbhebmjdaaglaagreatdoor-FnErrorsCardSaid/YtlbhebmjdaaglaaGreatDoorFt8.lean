/-
  ftoa64 of a normal double, shortest form.
-/
import Derived.Test.YtlbhebmjdaaglaaGreatDoorFt7
import Derived.Deep.RegionLaw
namespace Go.Proofs.YtlbhebmjdaaglaaGreatDoor
set_option linter.unusedSimpArgs false
set_option linter.unusedVariables false
open Go Go.RowKit
set_option maxRecDepth 100000

theorem bits_val (x : Nat) (w : World) : (callFunc 114 #[.float .f64 x]).run Tryz.prog w = .ok (.value (.int .u64 x)) w := by kernel_rfl

theorem len53 (n : Nat) (h1 : 4503599627370496 ≤ n) (h2 : n < 9007199254740992) : Lib.bitLen n = 53 := by
  obtain ⟨q1, q2, q3, q4⟩ := Ff.bitLen_pow n (by omega) (by omega)
  generalize Lib.bitLen n = L at *
  have h3 : L - 1 < 53 := by
    apply Classical.byContradiction
    intro hn
    have : 2 ^ 53 ≤ 2 ^ (L - 1) := Nat.pow_le_pow_right (by decide) (by omega)
    omega
  have h4 : 52 < L := by
    apply Classical.byContradiction
    intro hn
    have : 2 ^ L ≤ 2 ^ 52 := Nat.pow_le_pow_right (by decide) (by omega)
    omega
  omega

theorem holds32 {w : World} {R : Nat} {t : TypeId} (h : w.heap[R]? = some (.cells (Array.replicate 32 (.int .u8 0)) t)) : Go.Sort.Holds encB w R 0 (Array.replicate 32 (0 : UInt8)) := by
  intro j hj
  have hj : j < 32 := by simpa using hj
  constructor
  · simp [World.cell?, h, hj]
  · simp [World.frozen?, h]

theorem blk_lt_of_cell {w : World} {R : Nat} (h : Go.Sort.Holds encB w R 0 (Array.replicate 32 (0 : UInt8))) : R < w.heap.size := by
  have h1 := (h 0 (by simp)).1
  apply Classical.byContradiction
  intro hn
  have : w.heap[R]? = none := Array.getElem?_eq_none (by omega)
  simp [World.cell?, this] at h1

theorem shortP_bound {T : Nat → Nat × Nat} {m : Nat} {e : Int} (hT : ∀ i, i < 696 → (T i).1 < 18446744073709551616 ∧ (T i).2 < 18446744073709551616) (hm2 : m ≤ 18446744073709549568) (he1 : -1085 < e) (he2 : e ≤ 960) :
    (Ff.shortP T m e).1 < 18446744073709551616 ∧ -400 ≤ (Ff.shortP T m e).2 ∧ (Ff.shortP T m e).2 ≤ 400 := by
  unfold Ff.shortP
  generalize decide (m = 9223372036854775808 ∧ -1085 < e) = two
  obtain ⟨r1, r2, r3, r4⟩ := Ff.range_of (by omega) he2 two
  obtain ⟨p, hp⟩ : ∃ p, Ff.pOf two e = p := ⟨_, rfl⟩
  simp only [hp] at r1 r2 r3 r4 ⊢
  obtain ⟨s, hs⟩ : ∃ s : Nat, Ff.sOf e p = s := ⟨(Ff.sOf e p).toNat, by omega⟩
  rw [hs] at r3 r4
  have hu := hT (p + 348).toNat (by omega)
  rw [hs, Int.toNat_natCast]
  have b1 := usc_lt (m - (if two then 512 else 1024)) (T (p + 348).toNat).1 (T (p + 348).toNat).2 s (by split <;> omega) hu.1 (by omega)
  have b3 := usc_lt m (T (p + 348).toNat).1 (T (p + 348).toNat).2 s (by omega) hu.1 (by omega)
  generalize Ff.usc (m - (if two then 512 else 1024)) (T (p + 348).toNat).1 (T (p + 348).toNat).2 s = U1 at *
  generalize Ff.usc m (T (p + 348).toNat).1 (T (p + 348).toNat).2 s = U3 at *
  generalize Ff.usc (m + 1024) (T (p + 348).toNat).1 (T (p + 348).toNat).2 s = U2 at *
  split
  · exact ⟨by show _ / 10 < _; omega, by show -400 ≤ 1 - p; omega, by show 1 - p ≤ 400; omega⟩
  · split
    · exact ⟨by show (U3 + 1 + U3 / 4 % 2) / 4 < _; omega, by show -400 ≤ -p; omega, by show -p ≤ 400; omega⟩
    · exact ⟨by show (U1 + m / 2048 % 2 + 3) / 4 < _; omega, by show -400 ≤ -p; omega, by show -p ≤ 400; omega⟩

theorem ext_keeps {w w' : World} (R : Nat) (h : Ext w w') : Keeps [R] w w' := ⟨h.os, h.tape, h.output, h.size, fun k hk _ => h.block k hk⟩

set_option maxHeartbeats 12800000 in
theorem ftoa_ok (v : Value) (B x E M : Nat) (neg : Bool) (T : Nat → Nat × Nat) (w : World) (hF : FB w v.ownBlock B 0 0 w v) (hv : v.ownBlock ≠ some w.heap.size) (hB : B ≤ w.heap.size) (ht : TabAt w T) (hp : PowAt w)
    (hg1 : 17 < w.heap.size)
    (hx : x = (if neg then 9223372036854775808 else 0) + E * 4503599627370496 + M) (hE1 : 2 ≤ E) (hE2 : E ≤ 2046) (hM : M < 4503599627370496) :
    Calls Tryz.prog 104 #[v, .float .f64 x, .int .u8 103, .int .i64 (-1)] w fun e w' => ∃ v', e = .returned v' ∧ FB w v.ownBlock B 1 1000 w' v' := by
  have e1 : ((x : Int) / 9223372036854775808 != 0) = neg := by cases neg <;> simp at hx ⊢ <;> omega
  have e2 : bits .and .i64 ((x : Int) / 4503599627370496) 2047 = (E : Int) := by
    have h := bits_and_i64_nat (x / 4503599627370496) 2047 (by cases neg <;> simp at hx <;> omega) (by omega)
    have h2 : x / 4503599627370496 &&& 2047 = x / 4503599627370496 % 2048 := Nat.and_two_pow_sub_one_eq_mod _ 11
    rw [h2, show x / 4503599627370496 % 2048 = E by cases neg <;> simp at hx <;> omega] at h
    rwa [show ((x / 4503599627370496 : Nat) : Int) = (x : Int) / 4503599627370496 by omega] at h
  have e3 : bits .and .u64 (x : Int) 4503599627370495 = (M : Int) := by
    have h := bits_and_u64_nat x 4503599627370495 (by cases neg <;> simp at hx <;> omega) (by omega)
    have h2 : x &&& 4503599627370495 = x % 4503599627370496 := Nat.and_two_pow_sub_one_eq_mod _ 52
    rw [h2, show x % 4503599627370496 = M by cases neg <;> simp at hx <;> omega] at h
    exact h
  have e4 : bits .or .u64 (M : Int) 4503599627370496 = ((M + 4503599627370496 : Nat) : Int) := by
    have h := bits_or_u64_nat M 4503599627370496 (by omega) (by omega)
    have h2 : M ||| 4503599627370496 = M + 4503599627370496 := by
      rw [Nat.or_comm]
      have h3 := Nat.two_pow_add_eq_or_of_lt (i := 52) (b := M) (by omega) 1
      rw [show (2 : Nat) ^ 52 * 1 = 4503599627370496 by decide] at h3
      omega
    rw [h2] at h
    exact h
  obtain ⟨mant, hmant⟩ : ∃ m, M + 4503599627370496 = m := ⟨_, rfl⟩
  rw [hmant] at e4
  have hL := fun w' => bits_Len64 (mant : Int) w' (by omega) (by omega)
  simp only [Int.toNat_natCast, len53 mant (by omega) (by omega)] at hL
  obtain ⟨m, hm⟩ : ∃ m, mant * 2048 = m := ⟨_, rfl⟩
  have e5 : IntKind.u64.wrap ((mant : Int) * 2048) = (m : Int) := by rw [IntKind.wrap_u64]; omega
  have HFL := Lib.hid (fun w' => bits_val x w')
  have HL := Lib.hid (fun w' => hL w')
  have HT := Lib.hid ht; have HP := Lib.hid hp; have HF := Lib.hid hF; have HV := Lib.hid hv
  have hsb := shortP_bound (T := T) (m := m) (e := (E : Int) - 1086) ht.u64 (by omega) (by omega) (by omega)
  have hS := (fun (w' : World) (hw : Ext w w') => shortFloat_ok m ((E : Int) - 1086) T w' (ht.ext hw) (by have := hw.size; omega) (by omega) (by omega) (by omega) (by omega))
  obtain ⟨D, hD⟩ : ∃ D, (Ff.shortP T m ((E : Int) - 1086)).1 = D := ⟨_, rfl⟩
  obtain ⟨Q, hQ⟩ : ∃ Q, (Ff.shortP T m ((E : Int) - 1086)).2 = Q := ⟨_, rfl⟩
  rw [hD, hQ] at hS hsb
  have HS := Lib.hid hS
  clear hS hD hQ
  have hcf := HFL.out
  have hz : ¬ ((mant : Int) = 0) := by omega
  have hxl : x < 18446744073709551616 := by cases neg <;> simp at hx <;> omega
  have hw1 : wrap64 ((x : Int) / 4503599627370496) = (x : Int) / 4503599627370496 := IntWalk.wrap64_in _ ⟨by omega, by omega⟩
  have hw2 : IntKind.i64.wrap ((x : Int) / 4503599627370496) = (x : Int) / 4503599627370496 := by
    simp only [IntKind.wrap, IntKind.bits, IntKind.signed]
    simp
    omega
  have hE3 : ((E : Int) == 2047) = false := by rw [beq_eq_false_iff_ne]; omega
  have hE4 : ((E : Int) == 0) = false := by rw [beq_eq_false_iff_ne]; omega
  clear hx hL ht hp hF hv hmant
  go_enter Tryz.func104, Tryz.ntmps104
  go_wp2_with fail
  go_quiet (fail)
  have hb0 : Ext w (w.drewN nq) := below_drewN (Ext.rf w) nq
  have HF0 := Lib.hid (HF.out.drewN nq)
  have hsz0 : (w.drewN nq).heap.size = w.heap.size := rfl
  generalize w.drewN nq = w0 at hb0 HF0 hsz0 ⊢
  go_wp2_with fail
  refine (HL.out _).mono ?_
  rintro e w1 ⟨rfl, rfl⟩
  go_wp2_with fail
  have hal : Ext w (w0.alloc (.cells (Array.replicate 32 (.int .u8 0)) 164)) := hb0.al _
  have hHd : (w0.alloc (.cells (Array.replicate 32 (.int .u8 0)) 164)).heap[w.heap.size]? = some (.cells (Array.replicate 32 (.int .u8 0)) 164) := heap_alloc_new _ _ _ hsz0.symm
  have HFa := Lib.hid (HF0.out.alloc (.cells (Array.replicate 32 (.int .u8 0)) 164))
  change Calls _ _ _ (w0.alloc (.cells (Array.replicate 32 (.int .u8 0)) 164)) _
  generalize w0.alloc (.cells (Array.replicate 32 (.int .u8 0)) 164) = wa at hal hHd HFa ⊢
  rw [show (E : Int) + -1023 - 11 - 52 = (E : Int) - 1086 by omega]
  refine (HS.out wa hal).mono ?_
  rintro e w2 ⟨rfl, hb2⟩
  have hb2w : Ext w w2 := hal.tr hb2
  have hDn := Ff.ndig_le D hsb.1
  have HND := Lib.hid (fun w' (hw : Ext w w') => numDigits_ok D w' hsb.1 (fun i hi => hw.get (HP.out i hi)))
  have hSD := fun w' (hH : Go.Sort.Holds encB w' w.heap.size 0 (Array.replicate 32 (0 : UInt8))) => setDigits_ok w.heap.size (Ff.ndig D) D Q _ w' hH (by simp) (Ff.ndig_lt D hsb.1) hsb.1 hDn (by omega) (by omega)
  have hn0 : Ff.strip (Ff.dgt D (Ff.ndig D)) (Ff.ndig D) ≤ Ff.ndig D := Ff.strip_le _ _
  obtain ⟨n0, hn0e⟩ : ∃ n, Ff.ndig D = n := ⟨_, rfl⟩
  have hfd : ∀ t, 48 ≤ Ff.dgt D n0 t ∧ Ff.dgt D n0 t ≤ 57 := fun t => by have := Ff.dgt_lt D n0 t; omega
  rw [hn0e] at hDn HND hSD hn0
  obtain ⟨f, hfe⟩ : ∃ f, Ff.dgt D n0 = f := ⟨_, rfl⟩
  rw [hfe] at hSD hn0 hfd
  obtain ⟨nd, hnd⟩ : ∃ n, Ff.strip f n0 = n := ⟨_, rfl⟩
  rw [hnd] at hSD hn0
  have HSD := Lib.hid hSD
  have HFD := Lib.hid hfd
  clear hSD hfd hnd hfe hn0e
  have HH2 := Lib.hid (holds32 ((hb2.block w.heap.size (blk_lt hHd)).trans hHd))
  have HF2 := Lib.hid (HFa.out.keeps (ext_keeps w.heap.size hb2) (Nat.le_refl _) HV.out)
  clear hb0 HF0 hsz0 hal hHd HFa hb2
  go_wp2_with fail
  go_region_law (first
    | (go_simp; go_at_call 121; refine (HND.out _ (hb2w.tr (by repeat (first | with_reducible exact Below.refl _ _ | with_reducible assumption | ((with_reducible refine Below.setCell ?_ ?_ _); rotate_left; (simp; try omega)) | (with_reducible refine Ext.tr ?_ (by with_reducible assumption)) | (with_reducible refine Ext.al ?_ _) | (with_reducible refine below_drewN ?_ _) | (with_reducible refine Below.drew ?_))))).mono ?_; rintro e w3 ⟨rfl, rfl⟩)
    | (go_simp; go_at_call 120; refine (HSD.out w2.drew (fun j hj => HH2.out j hj)).mono ?_; rintro e w4 ⟨rfl, hbr, hks⟩))
  have hb4 : FB w v.ownBlock B 0 0 w4 v := HF2.out.keeps (R := w.heap.size) ⟨hks.os, hks.tape, hks.output, hks.size, hks.block⟩ (Nat.le_refl _) HV.out
  have hsz4 : w.heap.size < w4.heap.size := by
    have h := blk_lt_of_cell HH2.out
    have h2 := hks.size
    exact Nat.lt_of_lt_of_le h h2
  have hrow : BRow w4 w.heap.size nd f := fun t ht => hbr t (by omega)
  have HK := Lib.hid (fun (dp : Int) (h1 : -1000 ≤ dp) (h2 : dp ≤ 1000) =>
    show Calls Tryz.prog 117 #[v, .bool neg, .slice (some ⟨w.heap.size, 0, none⟩) 32 32, .int .i64 dp, .int .i64 nd, .int .i64 nd, .int .u8 103, .bool true] w4 fun e w' =>
      ∃ v', e = .returned v' ∧ FB w v.ownBlock B 1 1000 w' v' by
      by_cases hE1 : dp - 1 < -4
      · refine (fmtE_ok neg v w.heap.size nd B f dp w4 hb4.self (by omega) hrow hsz4 (fun e => HV.out e.symm) (fun t _ => HFD.out t) (by omega) h1 h2 (Or.inl hE1)).mono ?_
        rintro e w5 ⟨v5, rfl, h5⟩
        exact ⟨v5, rfl, hb4.rebase rfl h5⟩
      · by_cases hE2 : 6 ≤ dp - 1
        · refine (fmtE_ok neg v w.heap.size nd B f dp w4 hb4.self (by omega) hrow hsz4 (fun e => HV.out e.symm) (fun t _ => HFD.out t) (by omega) h1 h2 (Or.inr hE2)).mono ?_
          rintro e w5 ⟨v5, rfl, h5⟩
          exact ⟨v5, rfl, hb4.rebase rfl h5⟩
        · refine (fmtF_ok neg v w.heap.size nd B f dp w4 hb4.self (by omega) hrow hsz4 (fun e => HV.out e.symm) (fun t _ => HFD.out t) (by omega) hE1 hE2).mono ?_
          rintro e w5 ⟨v5, rfl, h5⟩
          exact ⟨v5, rfl, hb4.rebase rfl h5⟩)
  clear hb4 hrow hbr hks HF2 HH2
  go_wp2_with fail
  refine (HK.out ((n0 : Int) + Q) (by omega) (by omega)).mono ?_
  rintro e w5 ⟨v5, rfl, h5⟩
  go_wp2_with fail
  go_ret
  exact ⟨_, rfl, h5⟩
end Go.Proofs.YtlbhebmjdaaglaaGreatDoor
