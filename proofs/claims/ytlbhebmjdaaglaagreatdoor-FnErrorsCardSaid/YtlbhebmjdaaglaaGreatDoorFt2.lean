/-
  Scaling by a power of ten.
-/
import Derived.Test.YtlbhebmjdaaglaaGreatDoorFt1
import Derived.Shelf.Bits.Mul64
import Derived.BigRegion
import Derived.BigQuiet
import Derived.Deep.QuietTactic
import Derived.Test.YtlbhebmjdaaglaaGreatDoorA
namespace Go.Proofs.YtlbhebmjdaaglaaGreatDoor
set_option linter.unusedSimpArgs false
set_option linter.unusedVariables false
open Go Go.RowKit
set_option maxRecDepth 100000

set_option maxHeartbeats 1000000 in
theorem mul64_ok (x y : Nat) (hx : x < 18446744073709551616) (hy : y < 18446744073709551616) (w : World) :
    Calls Tryz.prog 177 #[.int .u64 x, .int .u64 y] w fun e w' => e = .returned (.tuple #[.int .u64 ((x * y / 18446744073709551616 : Nat) : Int), .int .u64 ((x * y % 18446744073709551616 : Nat) : Int)]) ∧ w' = w := by
  obtain ⟨bd, bt, bw, hhi⟩ := Lib.mul64_hi x y hx hy
  have ba := Lib.half_mul_le (a := x / 4294967296) (b := y / 4294967296) (by omega) (by omega)
  have bb := Lib.half_mul_le (a := x / 4294967296) (b := y % 4294967296) (by omega) (by omega)
  have bc := Lib.half_mul_le (a := x % 4294967296) (b := y / 4294967296) (by omega) (by omega)
  have ba' : x / 4294967296 * (y / 4294967296) < 18446744073709551616 := by omega
  have bb' : x / 4294967296 * (y % 4294967296) < 18446744073709551616 := by omega
  have bc' : x % 4294967296 * (y / 4294967296) < 18446744073709551616 := by omega
  have bh1 : x / 4294967296 * (y / 4294967296) + (x / 4294967296 * (y % 4294967296) + x % 4294967296 * (y % 4294967296) / 4294967296) / 4294967296 < 18446744073709551616 := by omega
  have bh : x / 4294967296 * (y / 4294967296) + (x / 4294967296 * (y % 4294967296) + x % 4294967296 * (y % 4294967296) / 4294967296) / 4294967296 + ((x / 4294967296 * (y % 4294967296) + x % 4294967296 * (y % 4294967296) / 4294967296) % 4294967296 + x % 4294967296 * (y / 4294967296)) / 4294967296 < 18446744073709551616 := by omega
  go_enter Tryz.func177, Tryz.ntmps177
  go_wp2
  simp only [Mul64.maskN x hx, Mul64.maskN y hy, Mul64.divN, Mul64.mulN, Mul64.addN, Mul64.wrapN _ bd, Mul64.wrapN _ bb', Mul64.wrapN _ bt, Mul64.maskN _ bt, Mul64.wrapN _ bc', Mul64.wrapN _ bw, Mul64.wrapN _ ba', Mul64.wrapN _ bh1, Mul64.wrapN _ bh, Mul64.wrapM (x * y)]
  rw [hhi]
  go_ret2
  exact ⟨rfl, rfl⟩

theorem and63 : ∀ s : Fin 64, bits .and .i64 (s.val : Int) 63 = s.val := by decide +kernel

set_option maxHeartbeats 1600000 in
theorem uscale_ok (x hi lo s b : Nat) (w : World) (hx : x < 18446744073709551616) (hhi : hi < 18446744073709551616) (hlo : lo < 18446744073709551616) (hs : s < 64)
    (c0 : w.cell? ⟨b, 0, none⟩ = some (.int .u64 hi)) (c1 : w.cell? ⟨b, 1, none⟩ = some (.int .u64 lo)) (c2 : w.cell? ⟨b, 2, none⟩ = some (.int .i64 s)) :
    Calls Tryz.prog 150 #[.int .u64 x, .pointer (some ⟨b, 0, none⟩)] w (Gives w (.int .u64 (Ff.usc x hi lo s))) := by
  have h1 := fun w => mul64_ok x hi hx hhi w
  have h2 := fun w => mul64_ok x lo hx hlo w
  have hpos : 0 < 2 ^ s := Nat.pow_pos (by decide)
  have hh1 : x * hi / 18446744073709551616 < 18446744073709551616 := by
    have : x * hi < 18446744073709551616 * 18446744073709551616 := Nat.mul_lt_mul'' hx hhi
    omega
  have hh3 : x * lo / 18446744073709551616 < 18446744073709551616 := by
    have : x * lo < 18446744073709551616 * 18446744073709551616 := Nat.mul_lt_mul'' hx hlo
    omega
  have hh2 : x * hi % 18446744073709551616 < 18446744073709551616 := Nat.mod_lt _ (by decide)
  have h63 := and63 ⟨s, hs⟩
  simp only [] at h63
  obtain ⟨V, hV⟩ : ∃ V, Ff.usc x hi lo s = V := ⟨_, rfl⟩
  rw [hV]
  unfold Ff.usc at hV
  generalize x * hi / 18446744073709551616 = h at h1 hh1 hV
  generalize x * hi % 18446744073709551616 = m at h1 hh2 hV
  generalize x * lo / 18446744073709551616 = m2 at h2 hh3 hV
  obtain ⟨q, hq⟩ : ∃ q, h / 2 ^ s = q := ⟨_, rfl⟩
  have hq2 : q * 2 ^ s ≤ h := by rw [← hq]; exact Nat.div_mul_le_self _ _
  have e1 : (h : Int) / 2 ^ s = (q : Int) := by rw [← hq]; push_cast; rfl
  obtain ⟨r, hr⟩ : ∃ r, q * 2 ^ s = r := ⟨_, rfl⟩
  have e2 : IntKind.u64.wrap ((q : Int) * 2 ^ s) = (r : Int) := by
    have e3 : (q : Int) * 2 ^ s = (r : Int) := by rw [← hr]; push_cast; rfl
    rw [e3, IntKind.wrap_u64]
    omega
  have HM1 := Lib.hid h1; have HM2 := Lib.hid h2
  rw [hq, hr] at hV
  have HV := Lib.hid hV; have HQ := Lib.hid hq
  clear h1 h2 hV hr hq hpos
  have hql : q < 18446744073709551616 := by
    rw [← HQ.out]; exact Nat.lt_of_le_of_lt (Nat.div_le_self _ _) hh1
  by_cases hc : r = h
  · have hb : ((r : Int) != (h : Int)) = false := by simp [hc]
    obtain ⟨a, ha⟩ : ∃ a, (if m < m2 then 1 else 0) = a := ⟨_, rfl⟩
    obtain ⟨t, ht⟩ : ∃ t, (m + 18446744073709551616 - m2) % 18446744073709551616 = t := ⟨_, rfl⟩
    obtain ⟨c, hcc⟩ : ∃ c, (if 1 < t then 1 else 0) = c := ⟨_, rfl⟩
    obtain ⟨h2, hh⟩ : ∃ h2, (h + 18446744073709551616 - a) % 18446744073709551616 = h2 := ⟨_, rfl⟩
    obtain ⟨q2, hq3⟩ : ∃ q2, h2 / 2 ^ s = q2 := ⟨_, rfl⟩
    have hV := HV.out
    rw [if_neg (by simp [hc]), ha, ht, hcc, hh, hq3] at hV
    have ha1 : a ≤ 1 := by rw [← ha]; split <;> omega
    have hc1 : c ≤ 1 := by rw [← hcc]; split <;> omega
    have e4 : IntKind.u64.wrap ((h : Int) - (a : Int)) = (h2 : Int) := by rw [IntKind.wrap_u64]; omega
    have e5 : IntKind.u64.wrap ((m : Int) - (m2 : Int)) = (t : Int) := by rw [IntKind.wrap_u64]; omega
    have e6 : (h2 : Int) / 2 ^ s = (q2 : Int) := by rw [← hq3]; push_cast; rfl
    have hq4 : q2 < 18446744073709551616 := by
      rw [← hq3]; exact Nat.lt_of_le_of_lt (Nat.div_le_self _ _) (by rw [← hh]; exact Nat.mod_lt _ (by decide))
    have e7 := bits_or_u64_nat q2 c hq4 (by omega)
    rw [hV] at e7
    have HB1 := Lib.hid (fun w => b2u_n (m < m2) a ha w)
    have HB2 := Lib.hid (fun w => b2u_n (1 < t) c hcc w)
    have HB3 := Lib.hid (fun w => b2u_n (1 < (t : Int)) c (by rw [← hcc]; by_cases h1 : 1 < t <;> simp [h1] <;> omega) w)
    clear HV hV ha hcc ht hh hq3
    go_enter Tryz.func150, Tryz.ntmps150
    go_wp2_with fail
    refine (HM1.out _).mono ?_
    rintro e w1 ⟨rfl, rfl⟩
    go_wp2_with fail
    refine (HM2.out _).mono ?_
    rintro e w2 ⟨rfl, rfl⟩
    go_wp2_with fail
    refine (HB1.out _).mono ?_
    rintro e w3 ⟨rfl, rfl⟩
    go_wp2_with fail
    go_quiet (first | (go_at_call 139; first | refine Calls.quiet_of_same (HB2.out _) | refine Calls.quiet_of_same (HB3.out _)))
    go_wp2
    go_ret
    exact ⟨rfl, (by repeat (first | with_reducible exact Below.refl _ _ | with_reducible assumption | ((with_reducible refine Below.setCell ?_ ?_ _); rotate_left; (simp; try omega)) | (with_reducible refine Ext.tr ?_ (by with_reducible assumption)) | (with_reducible refine Ext.al ?_ _) | (with_reducible refine below_drewN ?_ _) | (with_reducible refine Below.drew ?_)))⟩
  · have hb : ((r : Int) != (h : Int)) = true := by rw [bne_iff_ne]; omega
    have hV := HV.out
    rw [if_pos hc] at hV
    have e7 := bits_or_u64_nat q 1 hql (by omega)
    rw [hV] at e7
    have e8 : bits .or .u64 (q : Int) 1 = (V : Int) := e7
    clear HV hV e7
    go_enter Tryz.func150, Tryz.ntmps150
    go_wp2_with fail
    refine (HM1.out _).mono ?_
    rintro e w1 ⟨rfl, rfl⟩
    go_wp2
    go_ret
    exact ⟨by simp [e8], (by repeat (first | with_reducible exact Below.refl _ _ | with_reducible assumption | ((with_reducible refine Below.setCell ?_ ?_ _); rotate_left; (simp; try omega)) | (with_reducible refine Ext.tr ?_ (by with_reducible assumption)) | (with_reducible refine Ext.al ?_ _) | (with_reducible refine below_drewN ?_ _) | (with_reducible refine Below.drew ?_)))⟩
end Go.Proofs.YtlbhebmjdaaglaaGreatDoor
