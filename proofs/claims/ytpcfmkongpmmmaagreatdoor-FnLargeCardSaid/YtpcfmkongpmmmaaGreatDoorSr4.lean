/-
  pdqsortOrdered at float64.
  What sort.Float64s leaves is the one sorted list.
-/
import Derived.Test.YtpcfmkongpmmmaaGreatDoorSr3
import Derived.Test.YtpcfmkongpmmmaaGreatDoorSr1
import Derived.Test.YtpcfmkongpmmmaaGreatDoorSr2
import Derived.Sort.Walk13
import Derived.Test.YtpcfmkongpmmmaaGreatDoorKr
namespace Go.Proofs.YtpcfmkongpmmmaaGreatDoor
set_option linter.unusedSimpArgs false
set_option linter.unusedVariables false
open Go Go.RowKit Go.Sort
set_option maxRecDepth 100000

set_option maxHeartbeats 6400000 in
set_option maxRecDepth 1000000 in
theorem pdq_f : ∀ (N blk off cap a b limit : Nat) (d : Array Int) (w : World), b - a < N → Holds encF w blk off d → blk < w.heap.size → a ≤ b → b ≤ d.size → d.size < 2305843009213693952 → limit < 4611686018427387904 → Below ltF a b d →
    Calls Tryz.prog 216 #[.slice (some ⟨blk, off, none⟩) d.size cap, .int .i64 a, .int .i64 b, .int .i64 limit] w fun e w' => e = .returned (.tuple #[]) ∧ At encF w blk off (pdq ltF d a b limit true true) w' := by
  intro N
  induction N with
  | zero => intro _ _ _ _ _ _ _ _ h; exact absurd h (Nat.not_lt_zero _)
  | succ N ih =>
    intro blk off cap a b limit d w hN hH hblk hab hb hsz hlimit hBel0
    go_enter Tryz.func216, Tryz.ntmps216
    go_wp2
    go_loopg [1, 2, 3, 8, 9] (b - a) (fun k s1 s2 s3 s8 s9 wr => ∃ (a' b' lim : Nat) (wb wp : Bool) (dk : Array Int), s1 = .int .i64 a' ∧ s2 = .int .i64 b' ∧ s3 = .int .i64 lim ∧ s8 = .bool wb ∧ s9 = .bool wp ∧
      a' ≤ b' ∧ b' ≤ d.size ∧ b' - a' ≤ k ∧ k ≤ b - a ∧ lim ≤ limit ∧ dk.size = d.size ∧ Below ltF a' b' dk ∧ At encF w blk off dk wr ∧ pdq ltF dk a' b' lim wb wp = pdq ltF d a b limit true true)
    case atStart => exact ⟨a, b, limit, true, true, d, rfl, rfl, rfl, rfl, rfl, hab, hb, Nat.le_refl _, Nat.le_refl _, Nat.le_refl _, rfl, hBel0, At.refl hH, rfl⟩
    case round =>
      obtain ⟨a', b', lim, wb, wp, dk, rfl, rfl, rfl, rfl, rfl, hab', hb', hk, hkN, hlim, hds, hBel, hAt, heq⟩ := hrel
      obtain ⟨hHk, hblk'⟩ := hAt.holds hH hds hblk
      have A : Aside (pdq ltF dk a' b' lim wb wp = pdq ltF d a b limit true true) := heq
      clear heq
      by_cases h12 : b' - a' ≤ 12
      ·
        have h12z : (b' : Int) - (a' : Int) ≤ 12 := by omega
        have hc := insertion_f blk off cap a' b' dk wr hHk hab' (by omega) (by omega)
        rw [hds] at hc
        go_wp2_with (go_at_call 225; refine hc.mono ?_; rintro e w1 ⟨rfl, hw1⟩)
        (try simp only [Exit.inBlock, Exit.then]); refine bodyPost_ret (results_none rfl _ _ _) rfl ?_
        refine ⟨rfl, ?_⟩
        rw [← A.out, pdq_small h12]
        exact hAt.step hblk (insertionSort_holds swoF dk a' b' hab' (by omega)).1.1 hw1
      · have h12z : ¬ ((b' : Int) - (a' : Int) ≤ 12) := by omega
        by_cases hl0 : lim = 0
        ·
          subst hl0
          have hc := heap_f blk off d.size cap dk hds a' b' wr hHk hab' (by omega) (by omega)
          go_wp2_with (go_at_call 226; refine hc.mono ?_; rintro e w1 ⟨rfl, hw1⟩)
          (try simp only [Exit.inBlock, Exit.then]); refine bodyPost_ret (results_none rfl _ _ _) rfl ?_
          refine ⟨rfl, ?_⟩
          rw [← A.out, pdq_heap h12 rfl]
          exact hAt.step hblk (heapSort_holds swoF dk a' b' hab' (by omega)).1.1 hw1
        · have hl0z : ¬ ((lim : Int) = 0) := by omega
          obtain ⟨s1, B1, hc1, s2, B2, hpv, s3, B3⟩ := rd_facts (limit := lim) (wb := wb) (wp := wp) swoF partialInsertionSort_holds reverseRange_holds (show a' < b' by omega) (show b' ≤ dk.size by omega) hBel
          go_upto_if 35 with fail
          go_cut [3] from 19 (fun s3 wc => s3 = .int .i64 (rd ltF dk a' b' lim wb wp).lim ∧ At encF w blk off (rd ltF dk a' b' lim wb wp).d1 wc)
          case first =>
            cases wb
            · have hc := break_f blk off cap a' b' dk wr hHk hblk' hab' (by omega) (by omega)
              rw [hds] at hc
              go_wp2_with (go_at_call 227; refine hc.mono ?_; rintro e w1 ⟨rfl, hw1⟩)
              go_meet
              case rel =>
                refine ⟨?_, hAt.stepG hblk s1 hw1⟩
                show Value.int .i64 ((lim : Int) - 1) = Value.int .i64 ((lim - 1 : Nat) : Int)
                congr 1
                omega
            · go_wp2_with fail
              go_meet
              case rel => exact ⟨rfl, hAt⟩
          case rest =>
            obtain ⟨rfl, hAt1⟩ := hcut
            obtain ⟨hH1, hblk1⟩ := hAt1.holds hH (s1.trans hds) hblk
            have hc17 : Calls Tryz.prog 228 #[.slice (some ⟨blk, off, none⟩) d.size cap, .int .i64 a', .int .i64 b'] wc fun e w' => e = .returned (.tuple #[.int .i64 (rd ltF dk a' b' lim wb wp).c.1, .int .i64 (hintCode (rd ltF dk a' b' lim wb wp).c.2)]) ∧ ∃ n os, w' = grow (Sort.ahead wc n) os := by
              have := pivot_f blk off cap a' b' (rd ltF dk a' b' lim wb wp).d1 wc hH1 hblk1 (by omega) (by omega) (by omega)
              rw [s1, hds] at this
              exact this
            go_upto_if 50 with (go_at_call 228; refine hc17.mono ?_; rintro e w2 ⟨rfl, hw2⟩)
            have hAt2 : At encF w blk off (rd ltF dk a' b' lim wb wp).d1 w2 := hAt1.same hH (s1.trans hds) hblk hw2
            obtain ⟨hH2, hblk2⟩ := hAt2.holds hH (s1.trans hds) hblk
            go_cut [11, 12] from 19 (fun s11 s12 wc => s11 = .int .i64 (rd ltF dk a' b' lim wb wp).pivot ∧ s12 = .int .i64 (hintCode (rd ltF dk a' b' lim wb wp).hint) ∧ At encF w blk off (rd ltF dk a' b' lim wb wp).d2 wc)
            case first =>
              by_cases hh : (rd ltF dk a' b' lim wb wp).c.2 = .decreasing
              · have hcode : hintCode (rd ltF dk a' b' lim wb wp).c.2 = 2 := by rw [hh]; rfl
                obtain ⟨e2, epv, eht⟩ := rd_dec hh
                have hc18 := reverse_f blk off cap a' b' (rd ltF dk a' b' lim wb wp).d1 w2 hH2 hab' (by omega) (by omega)
                rw [s1, hds] at hc18
                go_wp2_with (go_at_call 229; refine hc18.mono ?_; rintro e w3 ⟨rfl, hw3⟩)
                go_meet
                case rel =>
                  refine ⟨?_, by rw [eht]; rfl, by rw [e2]; exact hAt2.step hblk (by rw [← e2, s2, s1]) hw3⟩
                  rw [epv]
                  congr 1
                  omega
              · have hcode : ¬ (hintCode (rd ltF dk a' b' lim wb wp).c.2 = 2) := fun h => hh (hintCode_two h)
                obtain ⟨e2, epv, eht⟩ := rd_not hh
                go_wp2_with fail
                go_meet
                case rel => exact ⟨by rw [epv], by rw [eht], by rw [e2]; exact hAt2⟩
            case rest =>
              obtain ⟨rfl, rfl, hAt3⟩ := hcut
              obtain ⟨hH3, hblk3⟩ := hAt3.holds hH (s2.trans hds) hblk
              go_upto_region 15 with fail
              go_cut [12, 68] from 19 (fun s12 s68 wx => s12 = .int .i64 (hintCode (rd ltF dk a' b' lim wb wp).hint) ∧ s68 = .bool (wb && wp && decide ((rd ltF dk a' b' lim wb wp).hint = .increasing)) ∧ wx = wc)
              case first =>
                cases wb <;> cases wp <;> cases hh3 : (rd ltF dk a' b' lim _ _).hint <;>
                  (have hcode3 := congrArg hintCode hh3
                   simp only [hintCode] at hcode3
                   go_wp2_with fail
                   go_meet
                   exact ⟨by simp [hh3, hintCode], by simp [hh3, hintCode], rfl⟩)
              case rest =>
                obtain ⟨rfl, rfl, rfl⟩ := hcut
                go_upto_if 68 with fail
                go_cut [] from 19 (fun wx => (rd ltF dk a' b' lim wb wp).pi.2 = false ∧ At encF w blk off (rd ltF dk a' b' lim wb wp).pi.1 wx)
                case first =>
                  cases h68 : (wb && wp && decide ((rd ltF dk a' b' lim wb wp).hint = .increasing))
                  · have epi := rd_pi_no h68
                    go_wp2_with fail
                    go_meet
                    case rel => exact ⟨by rw [epi], by rw [epi]; exact hAt3⟩
                  · have epi := rd_pi_yes h68
                    have hc19 := partial_f blk off cap a' b' (rd ltF dk a' b' lim wb wp).d2 wc hH3 (by omega) (by omega) (by omega)
                    rw [s2, hds, ← epi] at hc19
                    go_wp2_with (go_at_call 230; refine hc19.mono ?_; rintro e w4 ⟨rfl, hw4⟩)
                    all_goals first
                      | (have hp2 : (rd ltF dk a' b' lim wb wp).pi.2 = false := by rw [epi]; assumption
                         go_meet
                         exact ⟨hp2, hAt3.step hblk (by rw [s3, s2]) hw4⟩)
                      | (have hp2 : (rd ltF dk a' b' lim wb wp).pi.2 = true := by rw [epi]; assumption
                         (try simp only [Exit.inBlock, Exit.then]); refine bodyPost_ret (results_none rfl _ _ _) rfl ?_
                         refine ⟨rfl, ?_⟩
                         rw [← A.out, pdq_done h12 hl0 hp2]
                         exact hAt3.step hblk (by rw [s3, s2]) hw4)
                case rest =>
                  obtain ⟨hp2, hAt5⟩ := hcut
                  obtain ⟨hH5, hblk5⟩ := hAt5.holds hH (s3.trans hds) hblk
                  have hcw : ∀ t, t < d.size → wc.cell? ⟨blk, off + t, none⟩ = some (.float .f64 (fW (rd ltF dk a' b' lim wb wp).pi.1[t]!)) := fun t ht => (hH5 t (by omega)).1
                  have hfw : ∀ t, t < d.size → wc.frozen? ⟨blk, off + t, none⟩ = false := fun t ht => (hH5 t (by omega)).2
                  go_upto_region 17 with fail
                  go_cut [87] from 19 (fun s87 wx => s87 = .bool (decide (a' > 0) && !ltF (rd ltF dk a' b' lim wb wp).pi.1[a' - 1]! (rd ltF dk a' b' lim wb wp).pi.1[(rd ltF dk a' b' lim wb wp).pivot]!) ∧ At encF w blk off (rd ltF dk a' b' lim wb wp).pi.1 wx)
                  case first =>
                    rcases Nat.eq_zero_or_pos a' with ha0 | ha0
                    · have ha0z : decide ((a' : Int) > 0) = false := decide_eq_false (by omega)
                      go_big_quiet (first | (go_at_call 231; refine Calls.quiet_of_same (less_f _ _ _)))
                      go_wp2_with fail
                      go_meet
                      case rel => exact ⟨by simp [ha0], hAt5.ahead nq⟩
                    · have ha0z : (a' : Int) > 0 := by omega
                      go_big_quiet (first | (go_at_call 231; refine Calls.quiet_of_same (less_f _ _ _)))
                      go_wp2_with fail
                      go_meet
                      case rel => exact ⟨by simp [ha0], hAt5.ahead nq⟩
                  case rest =>
                    obtain ⟨rfl, hAt6⟩ := hcut
                    obtain ⟨hH6, hblk6⟩ := hAt6.holds hH (s3.trans hds) hblk
                    clear hcw hfw
                    cases h87 : (decide (a' > 0) && !ltF (rd ltF dk a' b' lim wb wp).pi.1[a' - 1]! (rd ltF dk a' b' lim wb wp).pi.1[(rd ltF dk a' b' lim wb wp).pivot]!)
                    ·
                      obtain ⟨mid, ap, d4, hx⟩ : ∃ mid ap d4, partition ltF (rd ltF dk a' b' lim wb wp).pi.1 a' b' (rd ltF dk a' b' lim wb wp).pivot = (mid, ap, d4) := ⟨(partition ltF (rd ltF dk a' b' lim wb wp).pi.1 a' b' (rd ltF dk a' b' lim wb wp).pivot).1, (partition ltF (rd ltF dk a' b' lim wb wp).pi.1 a' b' (rd ltF dk a' b' lim wb wp).pivot).2.1, (partition ltF (rd ltF dk a' b' lim wb wp).pi.1 a' b' (rd ltF dk a' b' lim wb wp).pivot).2.2, rfl⟩
                      obtain ⟨r1, r2, r3, r4, r5, r6, r7⟩ := round_part swoF (partition_holds _) hpv.1 hpv.2 (show b' ≤ (rd ltF dk a' b' lim wb wp).pi.1.size by omega) B3 hx
                      have hc22 := part_f blk off cap a' b' (rd ltF dk a' b' lim wb wp).pivot (rd ltF dk a' b' lim wb wp).pi.1 wc hH6 hpv.1 hpv.2 (by omega) (by omega)
                      rw [s3, hds, hx] at hc22
                      have X : Aside (partition ltF (rd ltF dk a' b' lim wb wp).pi.1 a' b' (rd ltF dk a' b' lim wb wp).pivot = (mid, ap, d4)) := hx
                      clear hx
                      go_upto_if 113 with (go_at_call 233; refine hc22.mono ?_; rintro e w7 ⟨rfl, hw7⟩)
                      have hx := X.out
                      have hAt7 : At encF w blk off d4 w7 := hAt6.step hblk r3 hw7
                      obtain ⟨hH7, hblk7⟩ := hAt7.holds hH (r3.trans (s3.trans hds)) hblk
                      by_cases h4 : mid - a' < b' - mid
                      · have h4z : (mid : Int) - (a' : Int) < (b' : Int) - (mid : Int) := by omega
                        have hih := ih blk off cap a' mid (rd ltF dk a' b' lim wb wp).lim d4 w7 (by omega) hH7 hblk7 (by omega) (by omega) (by omega) (Nat.lt_of_le_of_lt (Nat.le_trans rd_lim_le hlim) hlimit) r4
                        rw [r3, s3, hds] at hih
                        obtain ⟨pL, sL⟩ := (pdq_sorts _) swoF d4 a' mid (rd ltF dk a' b' lim wb wp).lim true true (by omega) (by omega) r4
                        go_wp2_with (go_at_call 216; refine hih.mono ?_; rintro e w8 ⟨rfl, hw8⟩)
                        go_roundg (b' - (mid + 1))
                        case measure => omega
                        case rel =>
                          refine ⟨mid + 1, b', (rd ltF dk a' b' lim wb wp).lim, decide (mid - a' ≥ (b' - a') / 8), ap, pdq ltF d4 a' mid (rd ltF dk a' b' lim wb wp).lim true true, by simp, rfl, rfl, ?_, rfl, by omega, by omega, Nat.le_refl _, by omega, Nat.le_trans rd_lim_le hlim, by rw [pL.1, r3, s3, hds], (r6 _ pL sL).1, hAt7.stepG hblk pL.1 hw8, ?_⟩
                          · exact congrArg Value.bool (eighth (by omega) (by omega))
                          · rw [← A.out, pdq_left h12 hl0 hp2 h87 (by rw [hx]; exact ⟨r1, r2⟩) (by rw [hx]; exact h4), hx]
                      · have h4z : ¬ ((mid : Int) - (a' : Int) < (b' : Int) - (mid : Int)) := by omega
                        have hih := ih blk off cap (mid + 1) b' (rd ltF dk a' b' lim wb wp).lim d4 w7 (by omega) hH7 hblk7 (by omega) (by omega) (by omega) (Nat.lt_of_le_of_lt (Nat.le_trans rd_lim_le hlim) hlimit) r5
                        rw [r3, s3, hds] at hih
                        obtain ⟨pL, sL⟩ := (pdq_sorts _) swoF d4 (mid + 1) b' (rd ltF dk a' b' lim wb wp).lim true true (by omega) (by omega) r5
                        go_wp2_with (go_at_call 216; refine hih.mono ?_; rintro e w8 ⟨rfl, hw8⟩)
                        go_roundg (mid - a')
                        case measure => omega
                        case rel =>
                          refine ⟨a', mid, (rd ltF dk a' b' lim wb wp).lim, decide (b' - mid ≥ (b' - a') / 8), ap, pdq ltF d4 (mid + 1) b' (rd ltF dk a' b' lim wb wp).lim true true, rfl, rfl, rfl, ?_, rfl, by omega, by omega, Nat.le_refl _, by omega, Nat.le_trans rd_lim_le hlim, by rw [pL.1, r3, s3, hds], (r7 _ pL sL).1, hAt7.stepG hblk pL.1 hw8, ?_⟩
                          · exact congrArg Value.bool (eighth (by omega) (by omega))
                          · rw [← A.out, pdq_right h12 hl0 hp2 h87 (by rw [hx]; exact ⟨r1, r2⟩) (by rw [hx]; exact h4), hx]
                    ·
                      have h87' := h87
                      simp only [Bool.and_eq_true, decide_eq_true_eq, Bool.not_eq_true'] at h87'
                      obtain ⟨mid, d4, hx⟩ : ∃ mid d4, partitionEqual ltF (rd ltF dk a' b' lim wb wp).pi.1 a' b' (rd ltF dk a' b' lim wb wp).pivot = (mid, d4) := ⟨(partitionEqual ltF (rd ltF dk a' b' lim wb wp).pi.1 a' b' (rd ltF dk a' b' lim wb wp).pivot).1, (partitionEqual ltF (rd ltF dk a' b' lim wb wp).pi.1 a' b' (rd ltF dk a' b' lim wb wp).pivot).2, rfl⟩
                      obtain ⟨r1, r2, r3, r4, _⟩ := round_eq swoF (partitionEqual_holds _) h87'.1 hpv.1 hpv.2 (show b' ≤ (rd ltF dk a' b' lim wb wp).pi.1.size by omega) B3 h87'.2 hx
                      have hc21 := parteq_f blk off cap a' b' (rd ltF dk a' b' lim wb wp).pivot (rd ltF dk a' b' lim wb wp).pi.1 wc hH6 hpv.1 hpv.2 (by omega) (by omega)
                      rw [s3, hds, hx] at hc21
                      have X : Aside (partitionEqual ltF (rd ltF dk a' b' lim wb wp).pi.1 a' b' (rd ltF dk a' b' lim wb wp).pivot = (mid, d4)) := hx
                      clear hx
                      go_wp2_with (go_at_call 232; refine hc21.mono ?_; rintro e w7 ⟨rfl, hw7⟩)
                      go_roundg (b' - mid)
                      case measure => omega
                      case rel =>
                        have hx := X.out
                        exact ⟨mid, b', (rd ltF dk a' b' lim wb wp).lim, wb, wp, d4, rfl, rfl, rfl, rfl, rfl, r2, hb', Nat.le_refl _, by omega, Nat.le_trans rd_lim_le hlim, by rw [r3, s3, hds], r4, hAt6.step hblk r3 hw7, by rw [← A.out, pdq_eq h12 hl0 hp2 h87 (by rw [hx]; exact ⟨r1, r2⟩), hx]⟩

theorem sort_f (blk off cap : Nat) (d : Array Int) (w : World) (hH : Holds encF w blk off d) (hblk : blk < w.heap.size) (hsz : d.size < 2305843009213693952) :
    Calls Tryz.prog 202 #[.slice (some ⟨blk, off, none⟩) d.size cap] w fun e w' => e = .returned (.tuple #[]) ∧ ∃ n os, w' = grow (putRow encF (Sort.ahead w n) blk off (Sort.sort ltF d)) os := by
  have HH := Lib.hid hH
  clear hH
  have hLen : ∀ w, Calls Tryz.prog 217 #[.int .u64 (d.size : Int)] w fun e w' => e = .returned (.int .i64 (bitsLen d.size : Nat)) ∧ w' = w := fun w => by
    have h := bits_Len (d.size : Int) w (by omega) (by omega)
    rwa [Int.toNat_natCast, bitLen_eq _ (by omega)] at h
  have hk : bitsLen d.size ≤ 62 := (bitsLen_le_iff d.size 62).2 (by omega)
  go_enter Tryz.func202, Tryz.ntmps202
  go_wp2_with (first
    | (go_at_call 217; refine (hLen _).mono ?_; rintro e w' ⟨rfl, rfl⟩)
    | (go_at_call 216; refine (pdq_f (d.size + 1) blk off cap 0 d.size (bitsLen d.size) d _ (by omega) (by exact HH.out) (by exact hblk) (Nat.zero_le _) (Nat.le_refl _) hsz (by omega) (Or.inl rfl)).mono ?_; rintro e w' ⟨rfl, n, os, rfl⟩))
  go_end0
  exact ⟨rfl, n, os, rfl⟩

/-- sort.Float64s leaves the words in their order. -/
theorem float64s_f (blk off cap : Nat) (d : Array Int) (w : World) (hH : Holds encF w blk off d) (hblk : blk < w.heap.size) (hsz : d.size < 2305843009213693952) :
    Calls Tryz.prog 116 #[.slice (some ⟨blk, off, none⟩) d.size cap] w fun e w' => e = .returned (.tuple #[]) ∧ ∃ n os, w' = grow (putRow encF (Sort.ahead w n) blk off (Sort.sort ltF d)) os := by
  have HH := Lib.hid hH
  clear hH
  go_enter Tryz.func116, Tryz.ntmps116
  go_wp2_with (first | (go_at_call 202; refine (sort_f blk off cap d _ (by exact HH.out) (by exact hblk) hsz).mono ?_; rintro e w' ⟨rfl, n, os, rfl⟩))
  go_end0
  exact ⟨rfl, n, os, rfl⟩
end Go.Proofs.YtpcfmkongpmmmaaGreatDoor

namespace Go.Proofs.YtpcfmkongpmmmaaGreatDoor
open Go Go.RowKit Go.Sort
set_option maxRecDepth 100000

theorem sorted_one : ∀ (l l' : List Int), l.Perm l' → l.Pairwise (· ≤ ·) → l'.Pairwise (· ≤ ·) → l = l'
  | [], l', h, _, _ => by rw [List.nil_perm.1 h]
  | a :: l, [], h, _, _ => by have := h.length_eq; simp at this
  | a :: l, b :: l', h, h1, h2 => by
    have ha : a ∈ b :: l' := h.mem_iff.1 (List.mem_cons_self ..)
    have hb : b ∈ a :: l := h.mem_iff.2 (List.mem_cons_self ..)
    have e : a = b := by
      rcases List.mem_cons.1 ha with e | ha
      · exact e
      · rcases List.mem_cons.1 hb with e | hb
        · exact e.symm
        · have q1 := (List.pairwise_cons.1 h1).1 b hb
          have q2 := (List.pairwise_cons.1 h2).1 a ha
          omega
    subst e
    rw [sorted_one l l' (List.Perm.cons_inv h) (List.pairwise_cons.1 h1).2 (List.pairwise_cons.1 h2).2]

theorem ltF_no {a b : Int} (h : ltF a b = false) : ¬ cl a < cl b := by unfold ltF at h; rwa [decide_eq_false_iff_not] at h

/-- The sort leaves THE sorted list. -/
theorem sort_eq (ns zs : List Int) (hp : zs.Perm ns) (ho : zs.Pairwise (· ≤ ·)) (hb : ∀ n ∈ ns, -4503599627370496 ≤ n ∧ n ≤ 4503599627370496) : (Sort.sort ltF ns.toArray).toList = zs := by
  obtain ⟨⟨hs, _, hpm⟩, hso⟩ := sort_sorts ltF swoF ns.toArray
  have hpm2 : (Sort.sort ltF ns.toArray).toList.Perm ns := by
    have h := hpm
    rw [← hs, Array.extract_size] at h
    have hs' : (Sort.sort ltF ns.toArray).size = ns.toArray.size := hs
    rw [hs', Array.extract_size] at h
    exact h
  refine sorted_one _ _ (hpm2.trans hp.symm) ?_ ho
  rw [List.pairwise_iff_getElem]
  intro i j hi hj hij
  have hsz : (Sort.sort ltF ns.toArray).size = ns.toArray.size := hs
  have h := hso i j (Nat.zero_le _) hij (by rw [← hsz]; simpa using hj)
  have hi' : i < (Sort.sort ltF ns.toArray).size := by simpa using hi
  have hj' : j < (Sort.sort ltF ns.toArray).size := by simpa using hj
  rw [getElem!_pos (Sort.sort ltF ns.toArray) i hi', getElem!_pos (Sort.sort ltF ns.toArray) j hj'] at h
  have m1 := hb _ (hpm2.mem_iff.1 (List.getElem_mem hi))
  have m2 := hb _ (hpm2.mem_iff.1 (List.getElem_mem hj))
  rw [Array.getElem_toList] at m1 m2
  have h := ltF_no h
  rw [cl_id m1.1 m1.2, cl_id m2.1 m2.2] at h
  simp only [Array.getElem_toList]
  omega

theorem fW_id {z : Int} (h1 : -1599999999984 ≤ z) (h2 : z ≤ 1599999999984) : fW z = f16 z := by unfold fW; rw [cl_id (by omega) (by omega)]

/-- The number at a place of the sorted words is the reference's. -/
theorem large_at (nums zs : List Sc) (hp : zs.Perm nums) (ho : Ord zs) (hn : ∀ y ∈ nums, NumK y) (i : Nat) (want : Sc) (hi : zs[i]? = some want) :
    (Sort.sort ltF (nums.map six).toArray)[i]! = six want ∧ fW (six want) = f16 (six want) := by
  have hb : ∀ n ∈ nums.map six, -4503599627370496 ≤ n ∧ n ≤ 4503599627370496 := by
    intro n hn'
    obtain ⟨y, hy, rfl⟩ := List.mem_map.1 hn'
    have := (hn y hy).six_le
    omega
  have h := sort_eq (nums.map six) (zs.map six) (hp.map six) (List.pairwise_map.2 ho) hb
  have hw : want ∈ nums := hp.mem_iff.1 (List.mem_of_getElem? hi)
  have hs := (hn want hw).six_le
  refine ⟨?_, fW_id hs.1 hs.2⟩
  have h2 : (Sort.sort ltF (nums.map six).toArray)[i]? = some (six want) := by
    rw [← Array.getElem?_toList, h, List.getElem?_map, hi]; rfl
  rw [getElem!_def, h2]
end Go.Proofs.YtpcfmkongpmmmaaGreatDoor
