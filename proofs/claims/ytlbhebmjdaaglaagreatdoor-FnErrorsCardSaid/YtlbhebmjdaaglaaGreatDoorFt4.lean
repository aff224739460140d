/-
  The shortest digits of a float: shortFloat.
-/
import Derived.Test.YtlbhebmjdaaglaaGreatDoorFt3
namespace Go.Proofs.YtlbhebmjdaaglaaGreatDoor
set_option linter.unusedSimpArgs false
set_option linter.unusedVariables false
open Go Go.RowKit
set_option maxRecDepth 100000

theorem bits_and_i64_nat (a b : Nat) (ha : a < 9223372036854775808) (hb : b < 9223372036854775808) : bits .and .i64 (a : Int) (b : Int) = ((a &&& b : Nat) : Int) := by
  have hx : a &&& b < 2 ^ 63 := Nat.and_lt_two_pow _ (by omega)
  have h1 : (BitVec.ofInt 64 (a : Int)).toNat = a := by
    rw [BitVec.ofInt_natCast, BitVec.toNat_ofNat]; exact Nat.mod_eq_of_lt (by omega)
  have h2 : (BitVec.ofInt 64 (b : Int)).toNat = b := by
    rw [BitVec.ofInt_natCast, BitVec.toNat_ofNat]; exact Nat.mod_eq_of_lt (by omega)
  show IntKind.i64.wrap ((BitVec.ofInt 64 (a : Int) &&& BitVec.ofInt 64 (b : Int)).toNat : Int) = _
  rw [BitVec.toNat_and, h1, h2]
  simp only [IntKind.wrap, IntKind.bits, IntKind.signed]
  simp
  omega

theorem usc_lt (x hi lo s : Nat) (hx : x < 18446744073709551616) (hhi : hi < 18446744073709551616) (hs : 2 ≤ s) : Ff.usc x hi lo s < 4611686018427387904 := by
  have h1 : x * hi / 18446744073709551616 < 2 ^ 64 := by
    have : x * hi < 18446744073709551616 * 18446744073709551616 := Nat.mul_lt_mul'' hx hhi
    omega
  have h2 : ∀ n, n < 2 ^ 64 → n / 2 ^ s < 2 ^ 62 := fun n hn => by
    rw [Nat.div_lt_iff_lt_mul (Nat.pow_pos (by decide))]
    have : 2 ^ 2 ≤ 2 ^ s := Nat.pow_le_pow_right (by decide) hs
    calc n < 2 ^ 62 * 2 ^ 2 := by omega
      _ ≤ 2 ^ 62 * 2 ^ s := Nat.mul_le_mul_left _ this
  show _ < 2 ^ 62
  unfold Ff.usc
  split
  · exact Nat.or_lt_two_pow (h2 _ h1) (by decide)
  · refine Nat.or_lt_two_pow (h2 _ (Nat.mod_lt _ (by decide))) ?_
    split <;> decide

/-- What uscale finds at the laid constants. -/
theorem uscale_at (x hi lo s b : Nat) (w : World) (hx : x < 18446744073709551616) (hhi : hi < 18446744073709551616) (hlo : lo < 18446744073709551616) (hs : s < 64) (hp : PreAt w b hi lo s) :
    Calls Tryz.prog 150 #[.int .u64 x, .pointer (some ⟨b, 0, none⟩)] w (Gives w (.int .u64 (Ff.usc x hi lo s))) := by
  unfold PreAt at hp
  exact uscale_ok x hi lo s b w hx hhi hlo hs (by simp [World.cell?, hp]) (by simp [World.cell?, hp]) (by simp [World.cell?, hp])

theorem PreAt.ext {w w' : World} {b hi lo s : Nat} (h : PreAt w b hi lo s) (hb : Ext w w') : PreAt w' b hi lo s := by
  unfold PreAt at h ⊢
  rw [hb.block b (blk_lt h)]; exact h

set_option maxHeartbeats 6400000 in
theorem shortFloat_ok (m : Nat) (e : Int) (T : Nat → Nat × Nat) (w : World) (ht : TabAt w T) (hgl : 17 < w.heap.size) (hm1 : 9223372036854775808 ≤ m) (hm2 : m ≤ 18446744073709549568) (he1 : -1085 < e) (he2 : e ≤ 960) :
    Calls Tryz.prog 127 #[.int .u64 m, .int .i64 e] w (Gives w (.tuple #[.int .u64 (Ff.shortP T m e).1, .int .i64 (Ff.shortP T m e).2])) := by
  obtain ⟨two, htwo⟩ : ∃ two, decide (m = 9223372036854775808 ∧ -1085 < e) = two := ⟨_, rfl⟩
  obtain ⟨r1, r2, r3, r4⟩ := Ff.range_of (by omega) he2 two
  obtain ⟨D, hD⟩ : ∃ D, (Ff.shortP T m e).1 = D := ⟨_, rfl⟩
  obtain ⟨Q, hQ⟩ : ∃ Q, (Ff.shortP T m e).2 = Q := ⟨_, rfl⟩
  rw [hD, hQ]
  unfold Ff.shortP at hD hQ
  simp only [htwo] at hD hQ
  obtain ⟨p, hp⟩ : ∃ p, Ff.pOf two e = p := ⟨_, rfl⟩
  rw [hp] at r1 r2 r3 r4 hD hQ
  obtain ⟨s, hs⟩ : ∃ s : Nat, Ff.sOf e p = s := ⟨(Ff.sOf e p).toNat, by omega⟩
  obtain ⟨k, hk⟩ : ∃ k : Nat, p + 348 = k := ⟨(p + 348).toNat, by omega⟩
  rw [hs, hk, Int.toNat_natCast, Int.toNat_natCast] at hD hQ
  rw [hs] at r3 r4
  rw [hk] at r1 r2
  have hkk : k < 696 := by omega
  have hu := ht.u64 k hkk
  obtain ⟨mn, hmn⟩ : ∃ mn, m - (if two = true then 512 else 1024) = mn := ⟨_, rfl⟩
  obtain ⟨od, hod⟩ : ∃ od, m / 2048 % 2 = od := ⟨_, rfl⟩
  rw [hmn, hod] at hD hQ
  have hlp : Ff.l2 p = (p * 108853 / 32768) := rfl
  have hsv : -(e + Ff.l2 p + 3) = (s : Int) := hs
  have hmn1 : mn < 18446744073709551616 := by rw [← hmn]; split <;> omega
  have hl2 : -100000 ≤ Ff.l2 p ∧ Ff.l2 p ≤ 100000 := by omega
  obtain ⟨U1, hU1⟩ : ∃ U, Ff.usc mn (T k).1 (T k).2 s = U := ⟨_, rfl⟩
  obtain ⟨U2, hU2⟩ : ∃ U, Ff.usc (m + 1024) (T k).1 (T k).2 s = U := ⟨_, rfl⟩
  obtain ⟨U3, hU3⟩ : ∃ U, Ff.usc m (T k).1 (T k).2 s = U := ⟨_, rfl⟩
  have b1 := usc_lt mn (T k).1 (T k).2 s hmn1 hu.1 (by omega)
  have b2 := usc_lt (m + 1024) (T k).1 (T k).2 s (by omega) hu.1 (by omega)
  have b3 := usc_lt m (T k).1 (T k).2 s (by omega) hu.1 (by omega)
  rw [hU1] at b1; rw [hU2] at b2; rw [hU3] at b3
  rw [hU1, hU2, hU3] at hD hQ
  have HU1 := Lib.hid (fun b w' hp => hU1 ▸ uscale_at mn (T k).1 (T k).2 s b w' hmn1 hu.1 hu.2 (by omega) hp)
  have HU2 := Lib.hid (fun b w' hp => hU2 ▸ uscale_at (m + 1024) (T k).1 (T k).2 s b w' (by omega) hu.1 hu.2 (by omega) hp)
  have HU3 := Lib.hid (fun b w' hp => hU3 ▸ uscale_at m (T k).1 (T k).2 s b w' (by omega) hu.1 hu.2 (by omega) hp)
  have hod1 : od ≤ 1 := by omega
  obtain ⟨dmin, hdmin⟩ : ∃ d, (U1 + od + 3) / 4 = d := ⟨_, rfl⟩
  obtain ⟨dmax, hdmax⟩ : ∃ d, (U2 + 18446744073709551616 - od) % 18446744073709551616 / 4 = d := ⟨_, rfl⟩
  rw [hdmin, hdmax] at hD hQ
  have hdl : dmin < 4611686018427387904 ∧ dmax < 4611686018427387904 := by omega
  have HN1 := Lib.hid (fun w' => nudge_up U1 od w' b1 hod1)
  have HN2 := Lib.hid (fun w' => nudge_down U2 od w' b2 hod1)
  have HC1 := Lib.hid (fun w' => hdmin ▸ ceil_ok (U1 + od) w' (by omega))
  have HC2 := Lib.hid (fun w' => hdmax ▸ floor_any ((U2 + 18446744073709551616 - od) % 18446744073709551616) w' (by omega))
  have HR := Lib.hid (fun w' => round_ok U3 w' (by omega))
  have HPR := Lib.hid (fun (w' : World) b (hw : Ext w w') hb hne => prescale_ok b e p (Ff.l2 p) k s T w' (ht.ext hw) hb hne hk hkk hsv (by omega) (by omega) hl2.1 hl2.2)
  have HL2 := Lib.hid (fun w' => l2_ok p w' (by omega) (by omega))
  obtain ⟨d10, hd10⟩ : ∃ d, dmax / 10 = d := ⟨_, rfl⟩
  rw [hd10] at hD hQ
  have e9 : (dmax : Int) / 10 = (d10 : Int) := by omega
  have e10 : IntKind.u64.wrap ((d10 : Int) * 10) = (d10 : Int) * 10 := by rw [IntKind.wrap_u64]; omega
  have hand : bits .and .i64 ((m : Int) / 2048) 1 = (od : Int) := by
    have h := bits_and_i64_nat (m / 2048) 1 (by omega) (by omega)
    have e : m / 2048 &&& 1 = m / 2048 % 2 := Nat.and_two_pow_sub_one_eq_mod _ 1
    rw [e, hod] at h
    rwa [show ((m / 2048 : Nat) : Int) = (m : Int) / 2048 by omega] at h
  have hsp1 : -348 ≤ p := by omega
  have hsp2 : p < 348 := by omega
  have HD := Lib.hid hD; have HQ := Lib.hid hQ; have HNE := Lib.hid hgl
  have e2 : IntKind.u64.wrap ((m : Int) + 1024) = ((m + 1024 : Nat) : Int) := by rw [IntKind.wrap_u64]; omega
  have HL10 := Lib.hid (fun w' => l10_ok (e + 11) w' (by omega) (by omega))
  have HSK := Lib.hid (fun w' => skw_ok (e + 11) w' (by omega) (by omega))
  clear hD hQ hU1 hU2 hU3 ht hu hdmin hdmax hsv hlp hs hod hd10 hk hl2 hgl
  cases two
  · have hm : ¬ (m = 9223372036854775808) := by
      intro h
      simp [h, he1] at htwo
    have hb : ((m : Int) == 9223372036854775808) = false := by rw [beq_eq_false_iff_ne]; omega
    have hpv : Ff.l10 (e + 11) = -p := by have : -Ff.l10 (e + 11) = p := hp; omega
    rw [hpv] at HL10
    have e1 : IntKind.u64.wrap ((m : Int) - 1024) = (mn : Int) := by
      rw [← hmn, IntKind.wrap_u64]; simp; omega
    clear htwo hp hmn hpv HSK hm
    go_enter Tryz.func127, Tryz.ntmps127
    go_wp2_with fail
    refine (HL10.out _).mono ?_
    rintro e w1 ⟨rfl, rfl⟩
    go_wp2_with fail
    refine (HL2.out _).mono ?_
    rintro e w2 ⟨rfl, rfl⟩
    go_wp2_with fail
    refine (HPR.out _ w1.heap.size ((Ext.rf w1).al _) (heap_alloc_new _ _ _ rfl) (by have := HNE.out; omega)).mono ?_
    rintro e w3 ⟨rfl, hpre, hk3⟩
    have hb3 : Ext w1 w3 := hk3.ext ((Ext.rf w1).al _) (by simp)
    have HP3 := Lib.hid hpre
    clear hpre hk3
    go_wp2_with fail
    refine (HU1.out _ _ HP3.out).mono ?_
    rintro e w4 ⟨rfl, hb4⟩
    go_wp2_with fail
    refine (HN1.out _).mono ?_
    rintro e w5 ⟨rfl, rfl⟩
    go_wp2_with fail
    refine (HC1.out _).mono ?_
    rintro e w6 ⟨rfl, rfl⟩
    go_wp2_with fail
    refine (HU2.out _ _ (HP3.out.ext hb4)).mono ?_
    rintro e w7 ⟨rfl, hb7⟩
    go_wp2_with fail
    refine (HN2.out _).mono ?_
    rintro e w8 ⟨rfl, rfl⟩
    go_wp2_with fail
    refine (HC2.out _).mono ?_
    rintro e w9 ⟨rfl, rfl⟩
    have hbw : Ext w1 w9 := (hb3.tr hb4).tr hb7
    by_cases hc : dmin ≤ d10 * 10
    · have hD := HD.out; have hQ := HQ.out
      rw [if_pos hc] at hD hQ
      have hD : d10 = D := hD
      have hQ : 1 - p = Q := hQ
      have HQ2 := Lib.hid hQ
      subst hD
      clear HD HQ hQ
      go_wp2
      go_ret2
      exact ⟨by rw [← HQ2.out, show (1 - p : Int) = -(p - 1) by omega]; rfl, hbw⟩
    · by_cases hc2 : dmin < dmax
      · have hD := HD.out; have hQ := HQ.out
        rw [if_neg hc, if_pos hc2] at hD hQ
        have hD : (U3 + 1 + U3 / 4 % 2) / 4 = D := hD
        have hQ : -p = Q := hQ
        have HQ2 := Lib.hid hQ
        have HR2 := Lib.hid (fun w' => hD ▸ HR.out w')
        clear HD HQ hQ hD
        go_wp2_with fail
        refine (HU3.out _ _ (HP3.out.ext (hb4.tr hb7))).mono ?_
        rintro e w10 ⟨rfl, hb10⟩
        go_wp2_with fail
        refine (HR2.out _).mono ?_
        rintro e w11 ⟨rfl, rfl⟩
        go_wp2
        go_ret2
        exact ⟨by rw [← HQ2.out]; rfl, hbw.tr hb10⟩
      · have hD := HD.out; have hQ := HQ.out
        rw [if_neg hc, if_neg hc2] at hD hQ
        have hD : dmin = D := hD
        have hQ : -p = Q := hQ
        have HQ2 := Lib.hid hQ
        subst hD
        clear HD HQ hQ
        go_wp2
        go_ret2
        exact ⟨by rw [← HQ2.out]; rfl, hbw⟩
  · have hm : m = 9223372036854775808 := by
      by_cases h : m = 9223372036854775808
      · exact h
      · simp [h] at htwo
    have hb : ((m : Int) == 9223372036854775808) = true := by rw [beq_iff_eq]; omega
    have hpv : Ff.skw (e + 11) = -p := by have : -Ff.skw (e + 11) = p := hp; omega
    rw [hpv] at HSK
    have e1 : IntKind.u64.wrap ((m : Int) - 512) = (mn : Int) := by
      rw [← hmn, IntKind.wrap_u64]; simp; omega
    clear htwo hp hmn hpv HL10 hm
    go_enter Tryz.func127, Tryz.ntmps127
    go_wp2_with fail
    refine (HSK.out _).mono ?_
    rintro e w1 ⟨rfl, rfl⟩
    go_wp2_with fail
    refine (HL2.out _).mono ?_
    rintro e w2 ⟨rfl, rfl⟩
    go_wp2_with fail
    refine (HPR.out _ w1.heap.size ((Ext.rf w1).al _) (heap_alloc_new _ _ _ rfl) (by have := HNE.out; omega)).mono ?_
    rintro e w3 ⟨rfl, hpre, hk3⟩
    have hb3 : Ext w1 w3 := hk3.ext ((Ext.rf w1).al _) (by simp)
    have HP3 := Lib.hid hpre
    clear hpre hk3
    go_wp2_with fail
    refine (HU1.out _ _ HP3.out).mono ?_
    rintro e w4 ⟨rfl, hb4⟩
    go_wp2_with fail
    refine (HN1.out _).mono ?_
    rintro e w5 ⟨rfl, rfl⟩
    go_wp2_with fail
    refine (HC1.out _).mono ?_
    rintro e w6 ⟨rfl, rfl⟩
    go_wp2_with fail
    refine (HU2.out _ _ (HP3.out.ext hb4)).mono ?_
    rintro e w7 ⟨rfl, hb7⟩
    go_wp2_with fail
    refine (HN2.out _).mono ?_
    rintro e w8 ⟨rfl, rfl⟩
    go_wp2_with fail
    refine (HC2.out _).mono ?_
    rintro e w9 ⟨rfl, rfl⟩
    have hbw : Ext w1 w9 := (hb3.tr hb4).tr hb7
    by_cases hc : dmin ≤ d10 * 10
    · have hD := HD.out; have hQ := HQ.out
      rw [if_pos hc] at hD hQ
      have hD : d10 = D := hD
      have hQ : 1 - p = Q := hQ
      have HQ2 := Lib.hid hQ
      subst hD
      clear HD HQ hQ
      go_wp2
      go_ret2
      exact ⟨by rw [← HQ2.out, show (1 - p : Int) = -(p - 1) by omega]; rfl, hbw⟩
    · by_cases hc2 : dmin < dmax
      · have hD := HD.out; have hQ := HQ.out
        rw [if_neg hc, if_pos hc2] at hD hQ
        have hD : (U3 + 1 + U3 / 4 % 2) / 4 = D := hD
        have hQ : -p = Q := hQ
        have HQ2 := Lib.hid hQ
        have HR2 := Lib.hid (fun w' => hD ▸ HR.out w')
        clear HD HQ hQ hD
        go_wp2_with fail
        refine (HU3.out _ _ (HP3.out.ext (hb4.tr hb7))).mono ?_
        rintro e w10 ⟨rfl, hb10⟩
        go_wp2_with fail
        refine (HR2.out _).mono ?_
        rintro e w11 ⟨rfl, rfl⟩
        go_wp2
        go_ret2
        exact ⟨by rw [← HQ2.out]; rfl, hbw.tr hb10⟩
      · have hD := HD.out; have hQ := HQ.out
        rw [if_neg hc, if_neg hc2] at hD hQ
        have hD : dmin = D := hD
        have hQ : -p = Q := hQ
        have HQ2 := Lib.hid hQ
        subst hD
        clear HD HQ hQ
        go_wp2
        go_ret2
        exact ⟨by rw [← HQ2.out]; rfl, hbw⟩
end Go.Proofs.YtlbhebmjdaaglaaGreatDoor
