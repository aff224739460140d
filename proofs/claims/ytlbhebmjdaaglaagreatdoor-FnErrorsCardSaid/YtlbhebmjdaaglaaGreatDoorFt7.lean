/-
  The form without an exponent.
-/
import Derived.Test.YtlbhebmjdaaglaaGreatDoorFt6
namespace Go.Proofs.YtlbhebmjdaaglaaGreatDoor
set_option linter.unusedSimpArgs false
set_option linter.unusedVariables false
open Go Go.RowKit
set_option maxRecDepth 100000

theorem firstD {c : Int} (h1 : 48 ≤ c) (h2 : c ≤ 57) : ∀ y : Int, ([c] : List Int).head? = some y → FirstOk y := by
  intro y h
  rw [List.head?_cons] at h
  have := Option.some.inj h
  exact Or.inr ⟨by omega, by omega⟩

set_option maxHeartbeats 12800000 in
theorem fmtF_ok (neg : Bool) (v : Value) (R nd B : Nat) (f : Nat → Nat) (dp : Int) (W : World) (hF : FB W v.ownBlock B 0 0 W v) (hB : B ≤ W.heap.size) (hr : BRow W R nd f) (hR : R < W.heap.size) (hne : some R ≠ v.ownBlock)
    (hf : ∀ t, t < nd → 48 ≤ f t ∧ f t ≤ 57) (hnd : nd ≤ 20) (hE1 : ¬ (dp - 1 < -4)) (hE2 : ¬ (6 ≤ dp - 1)) :
    Calls Tryz.prog 117 #[v, .bool neg, .slice (some ⟨R, 0, none⟩) 32 32, .int .i64 dp, .int .i64 nd, .int .i64 nd, .int .u8 103, .bool true] W fun e w' =>
      ∃ v', e = .returned v' ∧ FB W v.ownBlock B 1 1000 w' v' := by
  obtain ⟨V0, hV0⟩ : ∃ V0, v.ownBlock = V0 := ⟨_, rfl⟩
  rw [hV0] at hF hne ⊢
  have HF := Lib.hid hF; have HR := Lib.hid hr; have HFF := Lib.hid hf; have HNE := Lib.hid hne
  clear hF hr hf hne hV0
  have hc1 : ¬ ((nd : Int) > nd) := by omega
  obtain ⟨pr, hpr⟩ : ∃ pr : Nat, max ((nd : Int) - dp) 0 = pr := ⟨(max ((nd : Int) - dp) 0).toNat, by omega⟩
  have hdp1 : -3 ≤ dp := by omega
  have hdp2 : dp ≤ 6 := by omega
  have hprl : pr ≤ 23 := by omega
  go_enter Tryz.func117, Tryz.ntmps117
  go_upto_if 68 with fail
  go_cut [5, 68] from 272 (fun s5 _ wx => s5 = .int .i64 nd ∧ wx = W)
  case first =>
    by_cases hgt : (nd : Int) > dp
    · go_wp2_with fail
      go_meet
      exact ⟨rfl, rfl⟩
    · go_wp2_with fail
      go_meet
      exact ⟨rfl, rfl⟩
  case rest =>
  obtain ⟨rfl, rfl⟩ := hcut
  rename World => W
  go_upto_if 178 with fail
  go_cut [0] from 272 (fun s0 wc => FB W V0 B 0 1 wc s0)
  case first =>
    cases neg
    · go_wp2_with fail
      go_meet
      exact HF.out.wide (by omega) (by omega)
    · go_wp2_with (at_builtin; (refine fb_append rfl _ _ rfl W V0 B 0 0 hB _ rfl (HF.out.alloc _) ⟨W.heap.size, 0, none⟩ 1 1 [45] rfl rfl (new1 _ _ rfl 45 _) (good1 (by decide) (by decide)) (Or.inr first45) (by omega) ?_); intro v' w' hF')
      go_meet
      exact hF'.wide (by omega) (by omega)
  case rest =>
    have HC1 := Lib.hid hcut
    have hsz := hcut.size
    clear hcut
    go_upto_if 183 with fail
    go_cut [0, 183] from 272 (fun s0 _ wx => FB W V0 B 1 100 wx s0)
    case first =>
      by_cases hp : 0 < dp
      · obtain ⟨M, hM⟩ : ∃ M : Nat, min (nd : Int) dp = M := ⟨(min (nd : Int) dp).toNat, by omega⟩
        have hM1 : M ≤ nd := by omega
        have hM2 : (M : Int) ≤ dp := by omega
        obtain ⟨Z, hZ⟩ : ∃ Z : Nat, dp - M = Z := ⟨(dp - M).toNat, by omega⟩
        have hMZ : 1 ≤ M + Z := by omega
        have hZl : Z ≤ 6 := by omega
        have hRc : R < wc.heap.size := by omega
        go_wp2_with fail
        go_loopw [0, 191] (fun s0 s191 wr => ∃ k : Nat, k ≤ M ∧ s191 = .int .i64 k ∧ FB W V0 B k (1 + k) wr s0) (fun _ v _ => M - (intOf v).toNat)
        case atStart => exact ⟨0, Nat.zero_le _, rfl, HC1.out⟩
        case round =>
          obtain ⟨k, hk, rfl, hFk⟩ := hrel
          have HK := Lib.hid hFk
          have hszk := hFk.size
          clear hFk
          by_cases hlt : k < M
          · have hck := (HK.out.row HR.out hR HNE.out) k (by omega)
            have hqk := HFF.out k (by omega)
            have hRr : R < wr.heap.size := by omega
            go_wp2_with (at_builtin; (refine fb_append rfl _ _ rfl W V0 B k (1 + k) hB _ rfl (HK.out.alloc _) ⟨wr.heap.size, 0, none⟩ 1 1 [(f k : Int)] rfl rfl (new1 _ _ rfl _ _) (good1 (by omega) (by omega)) (Or.inr (firstD (by omega) (by omega))) (by omega) ?_); intro v' w' hF')
            go_roundw
            case rel => exact ⟨k + 1, by omega, by go_num, hF'.wide (by omega) (by omega)⟩
            case measure => simp [intOf]; omega
          · have hkM : k = M := by omega
            subst hkM
            go_wp2_with fail
            generalize wr = wo at *
            go_loopw [0, 203] (fun s0 s203 wr => ∃ j : Nat, j ≤ Z ∧ s203 = .int .i64 j ∧ FB W V0 B (k + j) (1 + k + j) wr s0) (fun _ v _ => Z - (intOf v).toNat)
            case atStart => exact ⟨0, Nat.zero_le _, rfl, HK.out⟩
            case round =>
              obtain ⟨j, hj, rfl, hFj⟩ := hrel
              have HJ := Lib.hid hFj
              clear hFj
              by_cases hltj : j < Z
              · go_wp2_with (at_builtin; (refine fb_append rfl _ _ rfl W V0 B (k + j) (1 + k + j) hB _ rfl (HJ.out.alloc _) ⟨wr.heap.size, 0, none⟩ 1 1 [48] rfl rfl (new1 _ _ rfl _ _) (good1 (by decide) (by decide)) (Or.inr (firstD (by decide) (by decide))) (by omega) ?_); intro v' w' hF')
                go_roundw
                case rel => exact ⟨j + 1, by omega, by go_num, hF'.wide (by omega) (by omega)⟩
                case measure => simp [intOf]; omega
              · go_wp2_with fail
                go_meet
                exact HJ.out.wide (by omega) (by omega)
      · go_wp2_with (at_builtin; (refine fb_append rfl _ _ rfl W V0 B 0 1 hB _ rfl (HC1.out.alloc _) ⟨wc.heap.size, 0, none⟩ 1 1 [48] rfl rfl (new1 _ _ rfl _ _) (good1 (by decide) (by decide)) (Or.inr (firstD (by decide) (by decide))) (by omega) ?_); intro v' w' hF')
        go_meet
        exact hF'.wide (by omega) (by omega)
    case rest =>
      have HC2 := Lib.hid hcut
      have hsz2 := hcut.size
      clear hcut
      rename World => w2
      go_upto_if 213 with fail
      go_cut [0, 213] from 272 (fun s0 _ wx => FB W V0 B 1 900 wx s0)
      case first =>
        by_cases h0 : 0 < pr
        · obtain ⟨lz, hlz⟩ : ∃ lz : Nat, min (pr : Int) (max 0 (-dp)) = lz := ⟨(min (pr : Int) (max 0 (-dp))).toNat, by omega⟩
          obtain ⟨off, hoff⟩ : ∃ off : Nat, dp + lz = off := ⟨(dp + lz).toNat, by omega⟩
          obtain ⟨m2, hm2⟩ : ∃ m : Nat, min ((pr : Int) - lz) (max 0 ((nd : Int) - off)) = m := ⟨(min ((pr : Int) - lz) (max 0 ((nd : Int) - off))).toNat, by omega⟩
          obtain ⟨tz, htz⟩ : ∃ t : Nat, max 0 ((pr : Int) - lz - m2) = t := ⟨(max 0 ((pr : Int) - lz - m2)).toNat, by omega⟩
          have hb1 : lz ≤ 23 := by omega
          have hb2 : off + m2 ≤ nd ∨ m2 = 0 := by omega
          have hb3 : tz ≤ 23 := by omega
          have hb4 : m2 ≤ 20 := by omega
          have hb5 : off ≤ 100 := by omega
          have HD := Lib.hid hpr
          clear hpr
          go_wp2_with (at_builtin; (refine fb_append rfl _ _ rfl W V0 B 1 100 hB _ rfl (HC2.out.alloc _) ⟨w2.heap.size, 0, none⟩ 1 1 [46] rfl rfl (new1 _ _ rfl _ _) (good1 (by decide) (by decide)) (Or.inl (by decide)) (by omega) ?_); intro v3 w3 hF3)
          have HC3 := Lib.hid hF3
          clear hF3
          go_loopw [0, 240] (fun s0 s240 wr => ∃ k : Nat, k ≤ lz ∧ s240 = .int .i64 k ∧ FB W V0 B 1 (200 + k) wr s0) (fun _ v _ => lz - (intOf v).toNat)
          case atStart => exact ⟨0, Nat.zero_le _, rfl, HC3.out.wide (by omega) (by omega)⟩
          case round =>
            obtain ⟨k, hk, rfl, hFk⟩ := hrel
            have HK := Lib.hid hFk
            clear hFk
            by_cases hlt : k < lz
            · go_wp2_with (at_builtin; (refine fb_append rfl _ _ rfl W V0 B 1 (200 + k) hB _ rfl (HK.out.alloc _) ⟨wr.heap.size, 0, none⟩ 1 1 [48] rfl rfl (new1 _ _ rfl _ _) (good1 (by decide) (by decide)) (Or.inl (by decide)) (by omega) ?_); intro v' w' hF')
              go_roundw
              case rel => exact ⟨k + 1, by omega, by go_num, hF'.wide (by omega) (by omega)⟩
              case measure => simp [intOf]; omega
            · go_wp2_with fail
              generalize wr = wo at *
              go_loopw [0, 247] (fun s0 s247 wr => ∃ j : Nat, j ≤ m2 ∧ s247 = .int .i64 j ∧ FB W V0 B 1 (300 + j) wr s0) (fun _ v _ => m2 - (intOf v).toNat)
              case atStart => exact ⟨0, Nat.zero_le _, rfl, HK.out.wide (by omega) (by omega)⟩
              case round =>
                obtain ⟨j, hj, rfl, hFj⟩ := hrel
                have HJ := Lib.hid hFj
                have hszj := hFj.size
                clear hFj
                by_cases hltj : j < m2
                · have hck := (HJ.out.row HR.out hR HNE.out) (off + j) (by omega)
                  have hqk := HFF.out (off + j) (by omega)
                  have hRr : R < wr.heap.size := by omega
                  go_wp2_with (at_builtin; (refine fb_append rfl _ _ rfl W V0 B 1 (300 + j) hB _ rfl (HJ.out.alloc _) ⟨wr.heap.size, 0, none⟩ 1 1 [(f (off + j) : Int)] rfl rfl (new1 _ _ rfl _ _) (good1 (by omega) (by omega)) (Or.inl (by decide)) (by omega) ?_); intro v' w' hF')
                  go_roundw
                  case rel => exact ⟨j + 1, by omega, by go_num, hF'.wide (by omega) (by omega)⟩
                  case measure => simp [intOf]; omega
                · go_wp2_with fail
                  generalize wr = wp at *
                  go_loopw [0, 261] (fun s0 s261 wr => ∃ i : Nat, i ≤ tz ∧ s261 = .int .i64 i ∧ FB W V0 B 1 (400 + i) wr s0) (fun _ v _ => tz - (intOf v).toNat)
                  case atStart => exact ⟨0, Nat.zero_le _, rfl, HJ.out.wide (by omega) (by omega)⟩
                  case round =>
                    obtain ⟨i, hi, rfl, hFi⟩ := hrel
                    have HI := Lib.hid hFi
                    clear hFi
                    by_cases hlti : i < tz
                    · go_wp2_with (at_builtin; (refine fb_append rfl _ _ rfl W V0 B 1 (400 + i) hB _ rfl (HI.out.alloc _) ⟨wr.heap.size, 0, none⟩ 1 1 [48] rfl rfl (new1 _ _ rfl _ _) (good1 (by decide) (by decide)) (Or.inl (by decide)) (by omega) ?_); intro v' w' hF')
                      go_roundw
                      case rel => exact ⟨i + 1, by omega, by go_num, hF'.wide (by omega) (by omega)⟩
                      case measure => simp [intOf]; omega
                    · go_wp2_with fail
                      go_meet
                      exact HI.out.wide (by omega) (by omega)
        · go_wp2_with fail
          go_meet
          exact HC2.out.wide (by omega) (by omega)
      case rest =>
        have HC9 := Lib.hid hcut
        clear hcut
        go_wp2
        go_ret
        exact ⟨_, rfl, HC9.out.wide (by omega) (by omega)⟩
end Go.Proofs.YtlbhebmjdaaglaaGreatDoor
