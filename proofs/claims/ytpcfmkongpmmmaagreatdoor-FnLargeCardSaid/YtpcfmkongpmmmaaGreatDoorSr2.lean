/-
  partitionEqualOrdered at float64.
  partitionOrdered at float64.
  partialInsertionSortOrdered at float64.
-/
import Derived.Test.YtpcfmkongpmmmaaGreatDoorSr1
import Derived.Sort.WalkC
import Derived.Sort.WalkC4
import Derived.Sort.WalkA6
namespace Go.Proofs.YtpcfmkongpmmmaaGreatDoor
set_option linter.unusedSimpArgs false
set_option linter.unusedVariables false
open Go Go.RowKit Go.Sort
set_option maxRecDepth 100000

abbrev encW (fw : Int → Nat) (z : Int) : Value := .float .f64 (fw z)

set_option maxHeartbeats 6400000 in
set_option maxRecDepth 100000 in
theorem parteq0_g (fw : Int → Nat) (lt : Int → Int → Bool) (HLS : Hid (∀ a b w, Calls Tryz.prog 231 #[.float .f64 (fw a), .float .f64 (fw b)] w fun e w' => e = .returned (.bool (lt a b)) ∧ w' = w)) (blk off cap a b pivot : Nat) (d : Array Int) (w : World) (hH : Holds (encW fw) w blk off d) (hap : a ≤ pivot) (hpb : pivot < b) (hb : b ≤ d.size) (hsz : d.size < 4611686018427387904) :
    Calls Tryz.prog 232 #[.slice (some ⟨blk, off, none⟩) d.size cap, .int .i64 a, .int .i64 b, .int .i64 pivot] w fun e w' =>
      e = .returned (.int .i64 (Sort.partitionEqual lt d a b pivot).1) ∧ ∃ n, w' = (putRow (encW fw) w blk off (Sort.partitionEqual lt d a b pivot).2).drewN n := by
  have hla : a < d.size := by omega
  have hlp : pivot < d.size := by omega
  obtain ⟨G, hG⟩ : ∃ G : Nat → Int, ∀ j, G j = d[j]! := ⟨fun j => d[j]!, fun _ => rfl⟩
  have ca : w.cell? ⟨blk, off + a, none⟩ = some (.float .f64 (fw (G a))) := by rw [hG]; exact (hH a hla).1
  have fa := (hH a hla).2
  have cp : w.cell? ⟨blk, off + pivot, none⟩ = some (.float .f64 (fw (G pivot))) := by rw [hG]; exact (hH pivot hlp).1
  have fp := (hH pivot hlp).2
  obtain ⟨v', hy'⟩ := cell?_setCell_some (w := w) (p := ⟨blk, off + a, none⟩) (x := .float .f64 (fw (G pivot))) (q := ⟨blk, off + pivot, none⟩) cp
  have AG : Hid (∀ j, G j = d[j]!) := hG
  have AH : Hid (Holds (encW fw) w blk off d) := hH
  clear hG hH
  go_enter Tryz.func232, Tryz.ntmps232
  go_wp2
  go_region
  go_wp2
  go_loopw [9, 10] (fun vi vj wr => ∃ (i j n : Nat) (dk : Array Int), vi = .int .i64 i ∧ vj = .int .i64 j ∧ a < i ∧ i ≤ j + 1 ∧ j < b ∧ dk.size = d.size ∧ wr = (putRow (encW fw) w blk off dk).drewN n ∧
      Sort.partEqLoop lt a i j dk = Sort.partEqLoop lt a (a + 1) (b - 1) (Sort.swp d a pivot))
    (fun vi vj _ => (intOf vj).toNat + 1 - (intOf vi).toNat)
  case atStart =>
    refine ⟨a + 1, b - 1, 1, Sort.swp d a pivot, by go_num, by go_num, by omega, by omega, by omega, size_swp _ _ _, ?_, rfl⟩
    have e := swap_worldC (encW fw) w blk off d 0 a pivot hla hlp
    rw [putRow_self _ w blk off d AH.out] at e
    rw [AG.out a, AG.out pivot]
    exact e
  case round =>
    obtain ⟨i, j, n, dk, rfl, rfl, hai, hij, hjb, hs, hw, heq⟩ := hrel
    clear ca fa cp fp hy' v' AG
    rename World => W1
    have hHk : Holds (encW fw) W1 blk off dk := by
      rw [hw]
      exact holds_putRow (encW fw) w blk off d dk AH.out hs
    obtain ⟨Gk, hG⟩ : ∃ Gk : Nat → Int, ∀ t, Gk t = dk[t]! := ⟨fun t => dk[t]!, fun _ => rfl⟩
    have hc : ∀ t, t < d.size → W1.cell? ⟨blk, off + t, none⟩ = some (.float .f64 (fw (Gk t))) := fun t ht => by rw [hG]; exact (hHk t (by omega)).1
    have hf : ∀ t, t < d.size → W1.frozen? ⟨blk, off + t, none⟩ = false := fun t ht => (hHk t (by omega)).2
    have AG : Hid (∀ t, Gk t = dk[t]!) := hG
    have AW : Hid (W1 = (putRow (encW fw) w blk off dk).drewN n) := hw
    have AE : Hid (Sort.partEqLoop lt a i j dk = Sort.partEqLoop lt a (a + 1) (b - 1) (Sort.swp d a pivot)) := heq
    clear hG hw heq hHk
    go_wp2
    go_loopw [9] (fun vi w1 => ∃ (i' n1 : Nat), vi = .int .i64 i' ∧ i ≤ i' ∧ i' ≤ j + 1 ∧ w1 = W1.drewN n1 ∧
        Hid (Sort.scanUp (fun x => !lt dk[a]! x) dk j i' = Sort.scanUp (fun x => !lt dk[a]! x) dk j i))
      (fun vi _ => j + 1 - (intOf vi).toNat)
    case atStart => exact ⟨i, 0, rfl, Nat.le_refl _, hij, rfl, rfl⟩
    case round =>
      obtain ⟨i', n1, rfl, hii, hij', hw1, hsc⟩ := hrel
      have hcw : ∀ t, t < d.size → wr.cell? ⟨blk, off + t, none⟩ = some (.float .f64 (fw (Gk t))) := fun t ht => by rw [hw1]; exact hc t ht
      have HW1 : Hid (wr = W1.drewN n1) := hw1
      clear hw1
      by_cases hle : i' ≤ j
      · go_wp2_with fail
        go_big_quiet (first | (go_at_call 231; refine Calls.quiet_of_same (HLS.out _ _ _)))
        go_wp2
        ·
          have ht : (!lt (Gk a) (Gk i')) = true := by assumption
          go_roundw
          case rel => exact ⟨i' + 1, n1 + nq, by go_num, by omega, by omega, by rw [HW1.out, World.drewN_drewN], (scanUp_go (fun x => !lt dk[a]! x) dk j i' hle (by rw [← AG.out a, ← AG.out i']; exact ht)).symm.trans hsc.out⟩
          case measure => simp [intOf]; omega
        ·
          have ht : (!lt (Gk a) (Gk i')) = false := by assumption
          have hi2 : Hid (i' = Sort.scanUp (fun x => !lt dk[a]! x) dk j i) := (scanUp_end (fun x => !lt dk[a]! x) dk j i' (Or.inr (by rw [← AG.out a, ← AG.out i']; exact ht))).symm.trans hsc.out
          clear ht
          have hw2 : wr.drewN nq = W1.drewN (n1 + nq) := by rw [HW1.out, World.drewN_drewN]
          clear hcw HW1 hsc
          go_loopw [10] (fun vj w2 => ∃ (j' n2 : Nat), vj = .int .i64 j' ∧ j' ≤ j ∧ i' ≤ j' + 1 ∧ w2 = W1.drewN n2 ∧
              Hid (Sort.scanDown (fun x => lt dk[a]! x) dk i' j' = Sort.scanDown (fun x => lt dk[a]! x) dk i' j))
            (fun vj _ => (intOf vj).toNat)
          case atStart => exact ⟨j, n1 + nq, rfl, Nat.le_refl _, hij', hw2, rfl⟩
          case round =>
            clear hw2
            obtain ⟨j', n2, rfl, hjj, hij2, hw2, hsd⟩ := hrel
            have hcw : ∀ t, t < d.size → wr.cell? ⟨blk, off + t, none⟩ = some (.float .f64 (fw (Gk t))) := fun t ht => by rw [hw2]; exact hc t ht
            have HW2 : Hid (wr = W1.drewN n2) := hw2
            clear hw2
            by_cases hle2 : i' ≤ j'
            · go_wp2_with fail
              go_big_quiet (first | (go_at_call 231; refine Calls.quiet_of_same (HLS.out _ _ _)))
              go_wp2
              ·
                have ht : lt (Gk a) (Gk j') = true := by assumption
                go_roundw
                case rel => exact ⟨j' - 1, n2 + nq, by go_num, by omega, by omega, by rw [HW2.out, World.drewN_drewN], (scanDown_go (fun x => lt dk[a]! x) dk i' j' hle2 (by omega) (by rw [← AG.out a, ← AG.out j']; exact ht)).symm.trans hsd.out⟩
                case measure => simp [intOf]; omega
              ·
                have ht : lt (Gk a) (Gk j') = false := by assumption
                have hj2 : Hid (j' = Sort.scanDown (fun x => lt dk[a]! x) dk i' j) := (scanDown_end (fun x => lt dk[a]! x) dk i' j' (Or.inr (by rw [← AG.out a, ← AG.out j']; exact ht))).symm.trans hsd.out
                clear hcw hsd ht
                have hw3 : wr.drewN nq = W1.drewN (n2 + nq) := by rw [HW2.out, World.drewN_drewN]
                generalize wr.drewN nq = W3 at hw3 ⊢
                have hc3 : ∀ t, t < d.size → W3.cell? ⟨blk, off + t, none⟩ = some (.float .f64 (fw (Gk t))) := fun t ht => by rw [hw3]; exact hc t ht
                have hf3 : ∀ t, t < d.size → W3.frozen? ⟨blk, off + t, none⟩ = false := fun t ht => by rw [hw3]; exact hf t ht
                have HW3 : Hid (W3 = W1.drewN (n2 + nq)) := hw3
                clear hw3
                obtain ⟨v3, hy3⟩ := cell?_setCell_some (w := W3) (p := ⟨blk, off + i', none⟩) (x := .float .f64 (fw (Gk j'))) (q := ⟨blk, off + j', none⟩) (hc3 j' (by omega))
                have hlt3 := scans_lt lt a i j dk (by omega) hi2.out hj2.out hle2
                go_wp2
                go_region
                all_goals go_wp2
                all_goals go_roundw
                case rel =>
                  refine ⟨i' + 1, j' - 1, n + (n2 + nq) + 1, Sort.swp dk i' j', by go_num, by go_num, by omega, by omega, by omega, by rw [size_swp]; exact hs, ?_, ?_⟩
                  · rw [HW3.out, AW.out, World.drewN_drewN, AG.out i', AG.out j']
                    exact swap_worldC (encW fw) w blk off dk _ i' j' (by omega) (by omega)
                  · rw [← AE.out]; exact (partEq_go lt a i j dk hi2.out hj2.out (by omega)).symm
                case measure => simp [intOf]; omega
            · go_wp2_with fail
              go_big_quiet (first | (go_at_call 231; refine Calls.quiet_of_same (HLS.out _ _ _)))
              have hj2 : Hid (j' = Sort.scanDown (fun x => lt dk[a]! x) dk i' j) := (scanDown_end (fun x => lt dk[a]! x) dk i' j' (Or.inl hle2)).symm.trans hsd.out
              clear hcw hsd
              have hw3 : wr.drewN nq = W1.drewN (n2 + nq) := by rw [HW2.out, World.drewN_drewN]
              generalize wr.drewN nq = W3 at hw3 ⊢
              have hc3 : ∀ t, t < d.size → W3.cell? ⟨blk, off + t, none⟩ = some (.float .f64 (fw (Gk t))) := fun t ht => by rw [hw3]; exact hc t ht
              have hf3 : ∀ t, t < d.size → W3.frozen? ⟨blk, off + t, none⟩ = false := fun t ht => by rw [hw3]; exact hf t ht
              have HW3 : Hid (W3 = W1.drewN (n2 + nq)) := hw3
              clear hw3
              go_wp2
              go_ret
              have e := partEq_break lt a i j dk hi2.out hj2.out (by omega)
              refine ⟨?_, n + (n2 + nq), ?_⟩
              · unfold Sort.partitionEqual; rw [← AE.out, e]; rfl
              · unfold Sort.partitionEqual; rw [← AE.out, e, HW3.out, AW.out, World.drewN_drewN]
      · go_wp2_with fail
        go_big_quiet (first | (go_at_call 231; refine Calls.quiet_of_same (HLS.out _ _ _)))
        go_wp2
        have hi2 : Hid (i' = Sort.scanUp (fun x => !lt dk[a]! x) dk j i) := (scanUp_end (fun x => !lt dk[a]! x) dk j i' (Or.inl hle)).symm.trans hsc.out
        have hw2 : wr.drewN nq = W1.drewN (n1 + nq) := by rw [HW1.out, World.drewN_drewN]
        clear hcw HW1 hsc
        go_loopw [10] (fun vj w2 => ∃ (j' n2 : Nat), vj = .int .i64 j' ∧ j' ≤ j ∧ i' ≤ j' + 1 ∧ w2 = W1.drewN n2 ∧
            Hid (Sort.scanDown (fun x => lt dk[a]! x) dk i' j' = Sort.scanDown (fun x => lt dk[a]! x) dk i' j))
          (fun vj _ => (intOf vj).toNat)
        case atStart => exact ⟨j, n1 + nq, rfl, Nat.le_refl _, hij', hw2, rfl⟩
        case round =>
          clear hw2
          obtain ⟨j', n2, rfl, hjj, hij2, hw2, hsd⟩ := hrel
          have hcw : ∀ t, t < d.size → wr.cell? ⟨blk, off + t, none⟩ = some (.float .f64 (fw (Gk t))) := fun t ht => by rw [hw2]; exact hc t ht
          have HW2 : Hid (wr = W1.drewN n2) := hw2
          clear hw2
          by_cases hle2 : i' ≤ j'
          · exfalso; omega
          · go_wp2_with fail
            go_big_quiet (first | (go_at_call 231; refine Calls.quiet_of_same (HLS.out _ _ _)))
            have hj2 : Hid (j' = Sort.scanDown (fun x => lt dk[a]! x) dk i' j) := (scanDown_end (fun x => lt dk[a]! x) dk i' j' (Or.inl hle2)).symm.trans hsd.out
            clear hcw hsd
            have hw3 : wr.drewN nq = W1.drewN (n2 + nq) := by rw [HW2.out, World.drewN_drewN]
            generalize wr.drewN nq = W3 at hw3 ⊢
            have hc3 : ∀ t, t < d.size → W3.cell? ⟨blk, off + t, none⟩ = some (.float .f64 (fw (Gk t))) := fun t ht => by rw [hw3]; exact hc t ht
            have hf3 : ∀ t, t < d.size → W3.frozen? ⟨blk, off + t, none⟩ = false := fun t ht => by rw [hw3]; exact hf t ht
            have HW3 : Hid (W3 = W1.drewN (n2 + nq)) := hw3
            clear hw3
            go_wp2
            go_ret
            have e := partEq_break lt a i j dk hi2.out hj2.out (by omega)
            refine ⟨?_, n + (n2 + nq), ?_⟩
            · unfold Sort.partitionEqual; rw [← AE.out, e]; rfl
            · unfold Sort.partitionEqual; rw [← AE.out, e, HW3.out, AW.out, World.drewN_drewN]

theorem parteq0_f (blk off cap a b pivot : Nat) (d : Array Int) (w : World) (hH : Holds encF w blk off d) (hap : a ≤ pivot) (hpb : pivot < b) (hb : b ≤ d.size) (hsz : d.size < 4611686018427387904) :
    Calls Tryz.prog 232 #[.slice (some ⟨blk, off, none⟩) d.size cap, .int .i64 a, .int .i64 b, .int .i64 pivot] w fun e w' =>
      e = .returned (.int .i64 (Sort.partitionEqual ltF d a b pivot).1) ∧ ∃ n, w' = (putRow encF w blk off (Sort.partitionEqual ltF d a b pivot).2).drewN n :=
  parteq0_g fW ltF (Lib.hid less_f) blk off cap a b pivot d w hH hap hpb hb hsz

theorem parteq_f (blk off cap a b pivot : Nat) (d : Array Int) (w : World) (hH : Holds encF w blk off d) (hap : a ≤ pivot) (hpb : pivot < b) (hb : b ≤ d.size) (hsz : d.size < 4611686018427387904) :
    Calls Tryz.prog 232 #[.slice (some ⟨blk, off, none⟩) d.size cap, .int .i64 a, .int .i64 b, .int .i64 pivot] w fun e w' =>
      e = .returned (.int .i64 (Sort.partitionEqual ltF d a b pivot).1) ∧ ∃ n, w' = putRow encF (Sort.ahead w n) blk off (Sort.partitionEqual ltF d a b pivot).2 :=
  (parteq0_f blk off cap a b pivot d w hH hap hpb hb hsz).mono fun _ _ ⟨he, n, hw⟩ => ⟨he, n, hw⟩
end Go.Proofs.YtpcfmkongpmmmaaGreatDoor

namespace Go.Proofs.YtpcfmkongpmmmaaGreatDoor
open Go Go.RowKit Go.Sort
set_option maxRecDepth 100000

set_option maxHeartbeats 12800000 in
set_option maxRecDepth 100000 in
theorem part0_g (fw : Int → Nat) (lt : Int → Int → Bool) (HLS : Hid (∀ a b w, Calls Tryz.prog 231 #[.float .f64 (fw a), .float .f64 (fw b)] w fun e w' => e = .returned (.bool (lt a b)) ∧ w' = w)) (blk off cap a b pivot : Nat) (d : Array Int) (w : World) (hH : Holds (encW fw) w blk off d) (hap : a ≤ pivot) (hpb : pivot < b) (hb : b ≤ d.size) (hsz : d.size < 4611686018427387904) :
    Calls Tryz.prog 233 #[.slice (some ⟨blk, off, none⟩) d.size cap, .int .i64 a, .int .i64 b, .int .i64 pivot] w fun e w' =>
      e = .returned (.tuple #[.int .i64 (Sort.partition lt d a b pivot).1, .bool (Sort.partition lt d a b pivot).2.1]) ∧ ∃ n, w' = (putRow (encW fw) w blk off (Sort.partition lt d a b pivot).2.2).drewN n := by
  have hla : a < d.size := by omega
  have hlp : pivot < d.size := by omega
  obtain ⟨G, hG⟩ : ∃ G : Nat → Int, ∀ j, G j = d[j]! := ⟨fun j => d[j]!, fun _ => rfl⟩
  have ca : w.cell? ⟨blk, off + a, none⟩ = some (.float .f64 (fw (G a))) := by rw [hG]; exact (hH a hla).1
  have fa := (hH a hla).2
  have cp : w.cell? ⟨blk, off + pivot, none⟩ = some (.float .f64 (fw (G pivot))) := by rw [hG]; exact (hH pivot hlp).1
  have fp := (hH pivot hlp).2
  obtain ⟨v', hy'⟩ := cell?_setCell_some (w := w) (p := ⟨blk, off + a, none⟩) (x := .float .f64 (fw (G pivot))) (q := ⟨blk, off + pivot, none⟩) cp
  have hw : ((w.setCell ⟨blk, off + a, none⟩ (.float .f64 (fw (G pivot)))).setCell ⟨blk, off + pivot, none⟩ (.float .f64 (fw (G a)))).drew = (putRow (encW fw) w blk off (Sort.swp d a pivot)).drewN 1 := by
    have e := swap_worldC (encW fw) w blk off d 0 a pivot hla hlp
    rw [putRow_self _ w blk off d hH] at e
    rw [hG a, hG pivot]
    exact e
  have AH : Hid (Holds (encW fw) w blk off d) := hH
  have HW0 := Hid.mk' hw
  clear hG hH hw
  go_enter Tryz.func233, Tryz.ntmps233
  go_wp2
  go_region
  go_wp2
  clear ca fa cp fp hy' v'
  have hw := HW0.out
  clear HW0
  generalize ((w.setCell ⟨blk, off + a, none⟩ (.float .f64 (fw (G pivot)))).setCell ⟨blk, off + pivot, none⟩ (.float .f64 (fw (G a)))).drew = W1 at hw ⊢
  obtain ⟨dk, hdk⟩ : ∃ dk, dk = Sort.swp d a pivot := ⟨_, rfl⟩
  obtain ⟨n, hn⟩ : ∃ n : Nat, n = 1 := ⟨_, rfl⟩
  rw [← hdk, ← hn] at hw
  clear hn
  have hs : dk.size = d.size := by rw [hdk, size_swp]
  have e1 : ((a : Int) + 1) = ((a + 1 : Nat) : Int) := by omega
  have e2 : ((b : Int) - 1) = ((b - 1 : Nat) : Int) := by omega
  rw [e1, e2]
  clear e1 e2
  obtain ⟨i, hi⟩ : ∃ i, i = a + 1 := ⟨_, rfl⟩
  obtain ⟨j, hj⟩ : ∃ j, j = b - 1 := ⟨_, rfl⟩
  rw [← hi, ← hj]
  have hai : a < i := by omega
  have hij : i ≤ j + 1 := by omega
  have hjb : j < b := by omega
  have HI := Hid.mk' hi
  have HJ := Hid.mk' hj
  have HDK := Hid.mk' hdk
  clear hi hj hdk
  have hHk : Holds (encW fw) W1 blk off dk := by
    rw [hw]
    exact holds_putRow (encW fw) w blk off d dk AH.out hs
  obtain ⟨Gk, hG⟩ : ∃ Gk : Nat → Int, ∀ t, Gk t = dk[t]! := ⟨fun t => dk[t]!, fun _ => rfl⟩
  have hc : ∀ t, t < d.size → W1.cell? ⟨blk, off + t, none⟩ = some (.float .f64 (fw (Gk t))) := fun t ht => by rw [hG]; exact (hHk t (by omega)).1
  have hf : ∀ t, t < d.size → W1.frozen? ⟨blk, off + t, none⟩ = false := fun t ht => (hHk t (by omega)).2
  have AG : Hid (∀ t, Gk t = dk[t]!) := hG
  have AW : Hid (W1 = (putRow (encW fw) w blk off dk).drewN n) := hw
  clear hG hw hHk
  go_loopw [10] (fun vi w1 => ∃ (i' n1 : Nat), vi = .int .i64 i' ∧ i ≤ i' ∧ i' ≤ j + 1 ∧ w1 = W1.drewN n1 ∧
      Hid (Sort.scanUp (fun x => lt x dk[a]!) dk j i' = Sort.scanUp (fun x => lt x dk[a]!) dk j i))
    (fun vi _ => j + 1 - (intOf vi).toNat)
  case atStart => exact ⟨i, 0, rfl, Nat.le_refl _, hij, rfl, rfl⟩
  case round =>
    obtain ⟨i', n1, rfl, hii, hij', hw1, hsc⟩ := hrel
    have hcw : ∀ t, t < d.size → wr.cell? ⟨blk, off + t, none⟩ = some (.float .f64 (fw (Gk t))) := fun t ht => by rw [hw1]; exact hc t ht
    have HW1 : Hid (wr = W1.drewN n1) := hw1
    clear hw1
    by_cases hle : i' ≤ j
    · go_wp2_with fail
      go_big_quiet (first | (go_at_call 231; refine Calls.quiet_of_same (HLS.out _ _ _)))
      go_wp2
      ·
        have ht : lt (Gk i') (Gk a) = true := by assumption
        go_roundw
        case rel => exact ⟨i' + 1, n1 + nq, by go_num, by omega, by omega, by rw [HW1.out, World.drewN_drewN], (scanUp_go (fun x => lt x dk[a]!) dk j i' hle (by rw [← AG.out a, ← AG.out i']; exact ht)).symm.trans hsc.out⟩
        case measure => simp [intOf]; omega
      ·
        have ht : lt (Gk i') (Gk a) = false := by assumption
        have hi2 : Hid (i' = Sort.scanUp (fun x => lt x dk[a]!) dk j i) := (scanUp_end (fun x => lt x dk[a]!) dk j i' (Or.inr (by rw [← AG.out a, ← AG.out i']; exact ht))).symm.trans hsc.out
        clear ht
        have hw2 : wr.drewN nq = W1.drewN (n1 + nq) := by rw [HW1.out, World.drewN_drewN]
        clear hcw HW1 hsc
        go_loopw [11] (fun vj w2 => ∃ (j' n2 : Nat), vj = .int .i64 j' ∧ j' ≤ j ∧ i' ≤ j' + 1 ∧ w2 = W1.drewN n2 ∧
            Hid (Sort.scanDown (fun x => !lt x dk[a]!) dk i' j' = Sort.scanDown (fun x => !lt x dk[a]!) dk i' j))
          (fun vj _ => (intOf vj).toNat)
        case atStart => exact ⟨j, n1 + nq, rfl, Nat.le_refl _, hij', hw2, rfl⟩
        case round =>
          clear hw2
          obtain ⟨j', n2, rfl, hjj, hij2, hw2, hsd⟩ := hrel
          have hcw : ∀ t, t < d.size → wr.cell? ⟨blk, off + t, none⟩ = some (.float .f64 (fw (Gk t))) := fun t ht => by rw [hw2]; exact hc t ht
          have HW2 : Hid (wr = W1.drewN n2) := hw2
          clear hw2
          by_cases hle2 : i' ≤ j'
          · go_wp2_with fail
            go_big_quiet (first | (go_at_call 231; refine Calls.quiet_of_same (HLS.out _ _ _)))
            go_wp2
            ·
              have ht : (!lt (Gk j') (Gk a)) = true := by assumption
              go_roundw
              case rel => exact ⟨j' - 1, n2 + nq, by go_num, by omega, by omega, by rw [HW2.out, World.drewN_drewN], (scanDown_go (fun x => !lt x dk[a]!) dk i' j' hle2 (by omega) (by rw [← AG.out a, ← AG.out j']; exact ht)).symm.trans hsd.out⟩
              case measure => simp [intOf]; omega
            ·
              have ht : (!lt (Gk j') (Gk a)) = false := by assumption
              have hj2 : Hid (j' = Sort.scanDown (fun x => !lt x dk[a]!) dk i' j) := (scanDown_end (fun x => !lt x dk[a]!) dk i' j' (Or.inr (by rw [← AG.out a, ← AG.out j']; exact ht))).symm.trans hsd.out
              clear hcw hsd ht
              have hw3 : wr.drewN nq = W1.drewN (n2 + nq) := by rw [HW2.out, World.drewN_drewN]
              generalize wr.drewN nq = W3 at hw3 ⊢
              have hc3 : ∀ t, t < d.size → W3.cell? ⟨blk, off + t, none⟩ = some (.float .f64 (fw (Gk t))) := fun t ht => by rw [hw3]; exact hc t ht
              have hf3 : ∀ t, t < d.size → W3.frozen? ⟨blk, off + t, none⟩ = false := fun t ht => by rw [hw3]; exact hf t ht
              have HW3 : Hid (W3 = W1.drewN (n2 + nq)) := hw3
              clear hw3
              obtain ⟨v3, hy3⟩ := cell?_setCell_some (w := W3) (p := ⟨blk, off + i', none⟩) (x := .float .f64 (fw (Gk j'))) (q := ⟨blk, off + j', none⟩) (hc3 j' (by omega))
              have hlt3 := part_scans_lt lt a i j dk (by omega) hi2.out hj2.out hle2
              go_wp2
              go_region
              all_goals go_wp2
              obtain ⟨R, hR⟩ : ∃ R, R = Sort.partLoop lt a (i' + 1) (j' - 1) (Sort.swp dk i' j') := ⟨_, rfl⟩
              have HP : Hid (Sort.partition lt d a b pivot = (R.1, false, Sort.swp R.2 R.1 a)) := by rw [hR]; exact part_first_go lt d a b pivot HI.out HJ.out HDK.out hi2.out hj2.out (by omega)
              have hw0 : ((W3.setCell ⟨blk, off + i', none⟩ (.float .f64 (fw (Gk j')))).setCell ⟨blk, off + j', none⟩ (.float .f64 (fw (Gk i')))).drew = (putRow (encW fw) w blk off (Sort.swp dk i' j')).drewN (n + (n2 + nq) + 1) := by
                rw [HW3.out, AW.out, World.drewN_drewN, AG.out i', AG.out j']
                exact swap_worldC (encW fw) w blk off dk _ i' j' (by omega) (by omega)
              have HR : Hid (R = Sort.partLoop lt a (i' + 1) (j' - 1) (Sort.swp dk i' j')) := hR
              clear hR hc hf hc3 hf3 hy3 HW3 AW AG hi2 hj2
              go_loopw [10, 11] (fun vi vj wr => ∃ (i j n : Nat) (dk : Array Int), vi = .int .i64 i ∧ vj = .int .i64 j ∧ a < i ∧ i ≤ j + 1 ∧ j < b ∧ dk.size = d.size ∧ wr = (putRow (encW fw) w blk off dk).drewN n ∧
                  Sort.partLoop lt a i j dk = R)
                (fun vi vj _ => (intOf vj).toNat + 1 - (intOf vi).toNat)
              case atStart => exact ⟨i' + 1, j' - 1, _, Sort.swp dk i' j', by go_num, by go_num, by omega, by omega, by omega, by rw [size_swp]; exact hs, hw0, HR.out.symm⟩
              case round =>
                clear hw0 HR
                obtain ⟨i, j, n, dk, rfl, rfl, hai, hij, hjb, hs, hw, heq⟩ := hrel
                rename World => W1
                have AE : Hid (Sort.partLoop lt a i j dk = R) := heq
                clear heq
                have hHk : Holds (encW fw) W1 blk off dk := by
                  rw [hw]
                  exact holds_putRow (encW fw) w blk off d dk AH.out hs
                obtain ⟨Gk, hG⟩ : ∃ Gk : Nat → Int, ∀ t, Gk t = dk[t]! := ⟨fun t => dk[t]!, fun _ => rfl⟩
                have hc : ∀ t, t < d.size → W1.cell? ⟨blk, off + t, none⟩ = some (.float .f64 (fw (Gk t))) := fun t ht => by rw [hG]; exact (hHk t (by omega)).1
                have hf : ∀ t, t < d.size → W1.frozen? ⟨blk, off + t, none⟩ = false := fun t ht => (hHk t (by omega)).2
                have AG : Hid (∀ t, Gk t = dk[t]!) := hG
                have AW : Hid (W1 = (putRow (encW fw) w blk off dk).drewN n) := hw
                clear hG hw hHk
                go_wp2
                go_loopw [10] (fun vi w1 => ∃ (i' n1 : Nat), vi = .int .i64 i' ∧ i ≤ i' ∧ i' ≤ j + 1 ∧ w1 = W1.drewN n1 ∧
                    Hid (Sort.scanUp (fun x => lt x dk[a]!) dk j i' = Sort.scanUp (fun x => lt x dk[a]!) dk j i))
                  (fun vi _ => j + 1 - (intOf vi).toNat)
                case atStart => exact ⟨i, 0, rfl, Nat.le_refl _, hij, rfl, rfl⟩
                case round =>
                  obtain ⟨i', n1, rfl, hii, hij', hw1, hsc⟩ := hrel
                  have hcw : ∀ t, t < d.size → wr.cell? ⟨blk, off + t, none⟩ = some (.float .f64 (fw (Gk t))) := fun t ht => by rw [hw1]; exact hc t ht
                  have HW1 : Hid (wr = W1.drewN n1) := hw1
                  clear hw1
                  by_cases hle : i' ≤ j
                  · go_wp2_with fail
                    go_big_quiet (first | (go_at_call 231; refine Calls.quiet_of_same (HLS.out _ _ _)))
                    go_wp2
                    ·
                      have ht : lt (Gk i') (Gk a) = true := by assumption
                      go_roundw
                      case rel => exact ⟨i' + 1, n1 + nq, by go_num, by omega, by omega, by rw [HW1.out, World.drewN_drewN], (scanUp_go (fun x => lt x dk[a]!) dk j i' hle (by rw [← AG.out a, ← AG.out i']; exact ht)).symm.trans hsc.out⟩
                      case measure => simp [intOf]; omega
                    ·
                      have ht : lt (Gk i') (Gk a) = false := by assumption
                      have hi2 : Hid (i' = Sort.scanUp (fun x => lt x dk[a]!) dk j i) := (scanUp_end (fun x => lt x dk[a]!) dk j i' (Or.inr (by rw [← AG.out a, ← AG.out i']; exact ht))).symm.trans hsc.out
                      clear ht
                      have hw2 : wr.drewN nq = W1.drewN (n1 + nq) := by rw [HW1.out, World.drewN_drewN]
                      clear hcw HW1 hsc
                      go_loopw [11] (fun vj w2 => ∃ (j' n2 : Nat), vj = .int .i64 j' ∧ j' ≤ j ∧ i' ≤ j' + 1 ∧ w2 = W1.drewN n2 ∧
                          Hid (Sort.scanDown (fun x => !lt x dk[a]!) dk i' j' = Sort.scanDown (fun x => !lt x dk[a]!) dk i' j))
                        (fun vj _ => (intOf vj).toNat)
                      case atStart => exact ⟨j, n1 + nq, rfl, Nat.le_refl _, hij', hw2, rfl⟩
                      case round =>
                        clear hw2
                        obtain ⟨j', n2, rfl, hjj, hij2, hw2, hsd⟩ := hrel
                        have hcw : ∀ t, t < d.size → wr.cell? ⟨blk, off + t, none⟩ = some (.float .f64 (fw (Gk t))) := fun t ht => by rw [hw2]; exact hc t ht
                        have HW2 : Hid (wr = W1.drewN n2) := hw2
                        clear hw2
                        by_cases hle2 : i' ≤ j'
                        · go_wp2_with fail
                          go_big_quiet (first | (go_at_call 231; refine Calls.quiet_of_same (HLS.out _ _ _)))
                          go_wp2
                          ·
                            have ht : (!lt (Gk j') (Gk a)) = true := by assumption
                            go_roundw
                            case rel => exact ⟨j' - 1, n2 + nq, by go_num, by omega, by omega, by rw [HW2.out, World.drewN_drewN], (scanDown_go (fun x => !lt x dk[a]!) dk i' j' hle2 (by omega) (by rw [← AG.out a, ← AG.out j']; exact ht)).symm.trans hsd.out⟩
                            case measure => simp [intOf]; omega
                          ·
                            have ht : (!lt (Gk j') (Gk a)) = false := by assumption
                            have hj2 : Hid (j' = Sort.scanDown (fun x => !lt x dk[a]!) dk i' j) := (scanDown_end (fun x => !lt x dk[a]!) dk i' j' (Or.inr (by rw [← AG.out a, ← AG.out j']; exact ht))).symm.trans hsd.out
                            clear hcw hsd ht
                            have hw3 : wr.drewN nq = W1.drewN (n2 + nq) := by rw [HW2.out, World.drewN_drewN]
                            generalize wr.drewN nq = W3 at hw3 ⊢
                            have hc3 : ∀ t, t < d.size → W3.cell? ⟨blk, off + t, none⟩ = some (.float .f64 (fw (Gk t))) := fun t ht => by rw [hw3]; exact hc t ht
                            have hf3 : ∀ t, t < d.size → W3.frozen? ⟨blk, off + t, none⟩ = false := fun t ht => by rw [hw3]; exact hf t ht
                            have HW3 : Hid (W3 = W1.drewN (n2 + nq)) := hw3
                            clear hw3
                            obtain ⟨v3, hy3⟩ := cell?_setCell_some (w := W3) (p := ⟨blk, off + i', none⟩) (x := .float .f64 (fw (Gk j'))) (q := ⟨blk, off + j', none⟩) (hc3 j' (by omega))
                            have hlt3 := part_scans_lt lt a i j dk (by omega) hi2.out hj2.out hle2
                            go_wp2
                            go_region
                            all_goals go_wp2
                            all_goals go_roundw
                            case rel =>
                              refine ⟨i' + 1, j' - 1, n + (n2 + nq) + 1, Sort.swp dk i' j', by go_num, by go_num, by omega, by omega, by omega, by rw [size_swp]; exact hs, ?_, ?_⟩
                              · rw [HW3.out, AW.out, World.drewN_drewN, AG.out i', AG.out j']
                                exact swap_worldC (encW fw) w blk off dk _ i' j' (by omega) (by omega)
                              · exact (part_go lt a i j dk hi2.out hj2.out (by omega)).symm.trans AE.out
                            case measure => simp [intOf]; omega
                        · go_wp2_with fail
                          go_big_quiet (first | (go_at_call 231; refine Calls.quiet_of_same (HLS.out _ _ _)))
                          have hj2 : Hid (j' = Sort.scanDown (fun x => !lt x dk[a]!) dk i' j) := (scanDown_end (fun x => !lt x dk[a]!) dk i' j' (Or.inl hle2)).symm.trans hsd.out
                          clear hcw hsd
                          have hw3 : wr.drewN nq = W1.drewN (n2 + nq) := by rw [HW2.out, World.drewN_drewN]
                          generalize wr.drewN nq = W3 at hw3 ⊢
                          have hc3 : ∀ t, t < d.size → W3.cell? ⟨blk, off + t, none⟩ = some (.float .f64 (fw (Gk t))) := fun t ht => by rw [hw3]; exact hc t ht
                          have hf3 : ∀ t, t < d.size → W3.frozen? ⟨blk, off + t, none⟩ = false := fun t ht => by rw [hw3]; exact hf t ht
                          have HW3 : Hid (W3 = W1.drewN (n2 + nq)) := hw3
                          clear hw3
                          obtain ⟨v3, hy3⟩ := cell?_setCell_some (w := W3) (p := ⟨blk, off + j', none⟩) (x := .float .f64 (fw (Gk a))) (q := ⟨blk, off + a, none⟩) (hc3 a (by omega))
                          have hlj : j' < d.size := by omega
                          go_wp2
                          go_region
                          all_goals go_wp2
                          all_goals go_ret2
                          have e : Sort.partition lt d a b pivot = (j', false, Sort.swp dk j' a) := by
                            have e0 := (part_break lt a i j dk hi2.out hj2.out (by omega)).symm.trans AE.out
                            rw [HP.out, ← e0]
                          refine ⟨?_, n + (n2 + nq) + 1, ?_⟩
                          · rw [e]; rfl
                          · rw [e, HW3.out, AW.out, World.drewN_drewN, AG.out a, AG.out j']
                            exact swap_worldC (encW fw) w blk off dk _ j' a (by omega) (by omega)
                  · go_wp2_with fail
                    go_big_quiet (first | (go_at_call 231; refine Calls.quiet_of_same (HLS.out _ _ _)))
                    go_wp2
                    have hi2 : Hid (i' = Sort.scanUp (fun x => lt x dk[a]!) dk j i) := (scanUp_end (fun x => lt x dk[a]!) dk j i' (Or.inl hle)).symm.trans hsc.out
                    have hw2 : wr.drewN nq = W1.drewN (n1 + nq) := by rw [HW1.out, World.drewN_drewN]
                    clear hcw HW1 hsc
                    go_loopw [11] (fun vj w2 => ∃ (j' n2 : Nat), vj = .int .i64 j' ∧ j' ≤ j ∧ i' ≤ j' + 1 ∧ w2 = W1.drewN n2 ∧
                        Hid (Sort.scanDown (fun x => !lt x dk[a]!) dk i' j' = Sort.scanDown (fun x => !lt x dk[a]!) dk i' j))
                      (fun vj _ => (intOf vj).toNat)
                    case atStart => exact ⟨j, n1 + nq, rfl, Nat.le_refl _, hij', hw2, rfl⟩
                    case round =>
                      clear hw2
                      obtain ⟨j', n2, rfl, hjj, hij2, hw2, hsd⟩ := hrel
                      have hcw : ∀ t, t < d.size → wr.cell? ⟨blk, off + t, none⟩ = some (.float .f64 (fw (Gk t))) := fun t ht => by rw [hw2]; exact hc t ht
                      have HW2 : Hid (wr = W1.drewN n2) := hw2
                      clear hw2
                      by_cases hle2 : i' ≤ j'
                      · exfalso; omega
                      · go_wp2_with fail
                        go_big_quiet (first | (go_at_call 231; refine Calls.quiet_of_same (HLS.out _ _ _)))
                        have hj2 : Hid (j' = Sort.scanDown (fun x => !lt x dk[a]!) dk i' j) := (scanDown_end (fun x => !lt x dk[a]!) dk i' j' (Or.inl hle2)).symm.trans hsd.out
                        clear hcw hsd
                        have hw3 : wr.drewN nq = W1.drewN (n2 + nq) := by rw [HW2.out, World.drewN_drewN]
                        generalize wr.drewN nq = W3 at hw3 ⊢
                        have hc3 : ∀ t, t < d.size → W3.cell? ⟨blk, off + t, none⟩ = some (.float .f64 (fw (Gk t))) := fun t ht => by rw [hw3]; exact hc t ht
                        have hf3 : ∀ t, t < d.size → W3.frozen? ⟨blk, off + t, none⟩ = false := fun t ht => by rw [hw3]; exact hf t ht
                        have HW3 : Hid (W3 = W1.drewN (n2 + nq)) := hw3
                        clear hw3
                        obtain ⟨v3, hy3⟩ := cell?_setCell_some (w := W3) (p := ⟨blk, off + j', none⟩) (x := .float .f64 (fw (Gk a))) (q := ⟨blk, off + a, none⟩) (hc3 a (by omega))
                        have hlj : j' < d.size := by omega
                        go_wp2
                        go_region
                        all_goals go_wp2
                        all_goals go_ret2
                        have e : Sort.partition lt d a b pivot = (j', false, Sort.swp dk j' a) := by
                          have e0 := (part_break lt a i j dk hi2.out hj2.out (by omega)).symm.trans AE.out
                          rw [HP.out, ← e0]
                        refine ⟨?_, n + (n2 + nq) + 1, ?_⟩
                        · rw [e]; rfl
                        · rw [e, HW3.out, AW.out, World.drewN_drewN, AG.out a, AG.out j']
                          exact swap_worldC (encW fw) w blk off dk _ j' a (by omega) (by omega)
          · go_wp2_with fail
            go_big_quiet (first | (go_at_call 231; refine Calls.quiet_of_same (HLS.out _ _ _)))
            have hj2 : Hid (j' = Sort.scanDown (fun x => !lt x dk[a]!) dk i' j) := (scanDown_end (fun x => !lt x dk[a]!) dk i' j' (Or.inl hle2)).symm.trans hsd.out
            clear hcw hsd
            have hw3 : wr.drewN nq = W1.drewN (n2 + nq) := by rw [HW2.out, World.drewN_drewN]
            generalize wr.drewN nq = W3 at hw3 ⊢
            have hc3 : ∀ t, t < d.size → W3.cell? ⟨blk, off + t, none⟩ = some (.float .f64 (fw (Gk t))) := fun t ht => by rw [hw3]; exact hc t ht
            have hf3 : ∀ t, t < d.size → W3.frozen? ⟨blk, off + t, none⟩ = false := fun t ht => by rw [hw3]; exact hf t ht
            have HW3 : Hid (W3 = W1.drewN (n2 + nq)) := hw3
            clear hw3
            obtain ⟨v3, hy3⟩ := cell?_setCell_some (w := W3) (p := ⟨blk, off + j', none⟩) (x := .float .f64 (fw (Gk a))) (q := ⟨blk, off + a, none⟩) (hc3 a (by omega))
            have hlj : j' < d.size := by omega
            go_wp2
            go_region
            all_goals go_wp2
            all_goals go_ret2
            have e : Sort.partition lt d a b pivot = (j', true, Sort.swp dk j' a) := part_first_break lt d a b pivot HI.out HJ.out HDK.out hi2.out hj2.out (by omega)
            refine ⟨?_, n + (n2 + nq) + 1, ?_⟩
            · rw [e]; rfl
            · rw [e, HW3.out, AW.out, World.drewN_drewN, AG.out a, AG.out j']
              exact swap_worldC (encW fw) w blk off dk _ j' a (by omega) (by omega)
    · go_wp2_with fail
      go_big_quiet (first | (go_at_call 231; refine Calls.quiet_of_same (HLS.out _ _ _)))
      go_wp2
      have hi2 : Hid (i' = Sort.scanUp (fun x => lt x dk[a]!) dk j i) := (scanUp_end (fun x => lt x dk[a]!) dk j i' (Or.inl hle)).symm.trans hsc.out
      have hw2 : wr.drewN nq = W1.drewN (n1 + nq) := by rw [HW1.out, World.drewN_drewN]
      clear hcw HW1 hsc
      go_loopw [11] (fun vj w2 => ∃ (j' n2 : Nat), vj = .int .i64 j' ∧ j' ≤ j ∧ i' ≤ j' + 1 ∧ w2 = W1.drewN n2 ∧
          Hid (Sort.scanDown (fun x => !lt x dk[a]!) dk i' j' = Sort.scanDown (fun x => !lt x dk[a]!) dk i' j))
        (fun vj _ => (intOf vj).toNat)
      case atStart => exact ⟨j, n1 + nq, rfl, Nat.le_refl _, hij', hw2, rfl⟩
      case round =>
        clear hw2
        obtain ⟨j', n2, rfl, hjj, hij2, hw2, hsd⟩ := hrel
        have hcw : ∀ t, t < d.size → wr.cell? ⟨blk, off + t, none⟩ = some (.float .f64 (fw (Gk t))) := fun t ht => by rw [hw2]; exact hc t ht
        have HW2 : Hid (wr = W1.drewN n2) := hw2
        clear hw2
        by_cases hle2 : i' ≤ j'
        · exfalso; omega
        · go_wp2_with fail
          go_big_quiet (first | (go_at_call 231; refine Calls.quiet_of_same (HLS.out _ _ _)))
          have hj2 : Hid (j' = Sort.scanDown (fun x => !lt x dk[a]!) dk i' j) := (scanDown_end (fun x => !lt x dk[a]!) dk i' j' (Or.inl hle2)).symm.trans hsd.out
          clear hcw hsd
          have hw3 : wr.drewN nq = W1.drewN (n2 + nq) := by rw [HW2.out, World.drewN_drewN]
          generalize wr.drewN nq = W3 at hw3 ⊢
          have hc3 : ∀ t, t < d.size → W3.cell? ⟨blk, off + t, none⟩ = some (.float .f64 (fw (Gk t))) := fun t ht => by rw [hw3]; exact hc t ht
          have hf3 : ∀ t, t < d.size → W3.frozen? ⟨blk, off + t, none⟩ = false := fun t ht => by rw [hw3]; exact hf t ht
          have HW3 : Hid (W3 = W1.drewN (n2 + nq)) := hw3
          clear hw3
          obtain ⟨v3, hy3⟩ := cell?_setCell_some (w := W3) (p := ⟨blk, off + j', none⟩) (x := .float .f64 (fw (Gk a))) (q := ⟨blk, off + a, none⟩) (hc3 a (by omega))
          have hlj : j' < d.size := by omega
          go_wp2
          go_region
          all_goals go_wp2
          all_goals go_ret2
          have e : Sort.partition lt d a b pivot = (j', true, Sort.swp dk j' a) := part_first_break lt d a b pivot HI.out HJ.out HDK.out hi2.out hj2.out (by omega)
          refine ⟨?_, n + (n2 + nq) + 1, ?_⟩
          · rw [e]; rfl
          · rw [e, HW3.out, AW.out, World.drewN_drewN, AG.out a, AG.out j']
            exact swap_worldC (encW fw) w blk off dk _ j' a (by omega) (by omega)

theorem part0_f (blk off cap a b pivot : Nat) (d : Array Int) (w : World) (hH : Holds encF w blk off d) (hap : a ≤ pivot) (hpb : pivot < b) (hb : b ≤ d.size) (hsz : d.size < 4611686018427387904) :
    Calls Tryz.prog 233 #[.slice (some ⟨blk, off, none⟩) d.size cap, .int .i64 a, .int .i64 b, .int .i64 pivot] w fun e w' =>
      e = .returned (.tuple #[.int .i64 (Sort.partition ltF d a b pivot).1, .bool (Sort.partition ltF d a b pivot).2.1]) ∧ ∃ n, w' = (putRow encF w blk off (Sort.partition ltF d a b pivot).2.2).drewN n :=
  part0_g fW ltF (Lib.hid less_f) blk off cap a b pivot d w hH hap hpb hb hsz

theorem part_f (blk off cap a b pivot : Nat) (d : Array Int) (w : World) (hH : Holds encF w blk off d) (hap : a ≤ pivot) (hpb : pivot < b) (hb : b ≤ d.size) (hsz : d.size < 4611686018427387904) :
    Calls Tryz.prog 233 #[.slice (some ⟨blk, off, none⟩) d.size cap, .int .i64 a, .int .i64 b, .int .i64 pivot] w fun e w' =>
      e = .returned (.tuple #[.int .i64 (Sort.partition ltF d a b pivot).1, .bool (Sort.partition ltF d a b pivot).2.1]) ∧ ∃ n, w' = putRow encF (Sort.ahead w n) blk off (Sort.partition ltF d a b pivot).2.2 :=
  (part0_f blk off cap a b pivot d w hH hap hpb hb hsz).mono fun _ _ ⟨he, n, hw⟩ => ⟨he, n, hw⟩
end Go.Proofs.YtpcfmkongpmmmaaGreatDoor

namespace Go.Proofs.YtpcfmkongpmmmaaGreatDoor
open Go Go.RowKit Go.Sort
set_option maxRecDepth 100000

set_option maxHeartbeats 1600000 in
set_option maxRecDepth 100000 in
theorem partial_g (fw : Int → Nat) (lt : Int → Int → Bool) (HLS : Hid (∀ a b w, Calls Tryz.prog 231 #[.float .f64 (fw a), .float .f64 (fw b)] w fun e w' => e = .returned (.bool (lt a b)) ∧ w' = w)) (blk off cap a b : Nat) (d : Array Int) (w : World) (hH : Holds (encW fw) w blk off d) (hab : a < b) (hb : b ≤ d.size) (hsz : d.size < 4611686018427387904) :
    Calls Tryz.prog 230 #[.slice (some ⟨blk, off, none⟩) d.size cap, .int .i64 a, .int .i64 b] w fun e w' =>
      e = .returned (.bool (Sort.partialInsertionSort lt d a b).2) ∧ ∃ n, w' = putRow (encW fw) (Sort.ahead w n) blk off (Sort.partialInsertionSort lt d a b).1 := by
  have HH : Hid (Holds (encW fw) w blk off d) := hH
  have HST : Hid (w = putRow (encW fw) (Sort.ahead w 0) blk off d) := (putRow_self _ _ _ _ _ hH).symm
  clear hH
  go_enter Tryz.func230, Tryz.ntmps230
  go_wp2
  go_loopw [7, 8] (fun vi vs wr => ∃ (i s n : Nat) (dk : Array Int), vi = .int .i64 i ∧ vs = .int .i64 s ∧ s ≤ 5 ∧ a < i ∧ i ≤ b ∧ dk.size = d.size ∧ wr = putRow (encW fw) (Sort.ahead w n) blk off dk ∧
      partialIns lt a b (5 - s) i dk = partialIns lt a b 5 (a + 1) d) (fun _ vs _ => 5 - (intOf vs).toNat)
  case atStart => exact ⟨a + 1, 0, 0, d, by go_num, rfl, by omega, by omega, by omega, rfl, HST.out, rfl⟩
  case round =>
    obtain ⟨i, s, n, dk, rfl, rfl, hs5, hai, hib, hsk, hwr, hO⟩ := hrel
    have HO : Hid (partialIns lt a b (5 - s) i dk = partialIns lt a b 5 (a + 1) d) := hO
    clear hO
    go_wp2
    ·
      have hs : s < 5 := by omega
      go_loopw [7] (fun vi wr2 => ∃ (k m : Nat), vi = .int .i64 k ∧ i ≤ k ∧ k ≤ b ∧ wr2 = putRow (encW fw) (Sort.ahead w m) blk off dk ∧ scanSorted lt dk b k = scanSorted lt dk b i) (fun vi _ => b - (intOf vi).toNat)
      case atStart => exact ⟨i, n, rfl, Nat.le_refl _, hib, rfl, rfl⟩
      case round =>
        obtain ⟨k, m, rfl, hik, hkb, hw2, hS⟩ := hrel
        obtain ⟨G, hG⟩ : ∃ G : Nat → Int, ∀ t, G t = dk[t]! := ⟨fun t => dk[t]!, fun _ => rfl⟩
        have hcw : ∀ t, t < d.size → wr.cell? ⟨blk, off + t, none⟩ = some (.float .f64 (fw (G t))) := fun t ht => by
          rw [hw2, hG]; exact cell?_putRow _ _ _ _ d dk (holds_ahead _ _ _ _ _ _ HH.out) hsk t (by omega)
        have hfw : ∀ t, t < d.size → wr.frozen? ⟨blk, off + t, none⟩ = false := fun t ht => by
          rw [hw2, frozen?_putRow]; exact ((holds_ahead _ _ m _ _ _ HH.out) t ht).2
        have HW : Hid (wr = putRow (encW fw) (Sort.ahead w m) blk off dk) := hw2
        have HG : Hid (∀ t, G t = dk[t]!) := hG
        have HS : Hid (scanSorted lt dk b k = scanSorted lt dk b i) := hS
        clear hw2 hG hS
        go_wp2
        by_cases hkb' : k < b
        · go_quiet (first | (go_at_call 231; refine Calls.quiet_of_same (HLS.out _ _ _)))
          go_wp2
          all_goals first
            | (at_end
               have hl : lt (G k) (G (k - 1)) = false := by
                 have h : (!lt (G k) (G (k - 1))) = true := by assumption
                 simpa using h
               go_roundw
               case rel => exact ⟨k + 1, m + nq, by go_num, by omega, by omega, by rw [HW.out]; exact putRow_drewN _ _ _ _ _ _ _, by rw [← HS.out, scanSorted_go lt dk b k hkb' (by rw [← HG.out, ← HG.out]; exact hl)]⟩
               case measure => simp [intOf]; omega)
            | (have hl : lt (G k) (G (k - 1)) = true := by
                 have h : (!lt (G k) (G (k - 1))) = false := by assumption
                 simpa using h
               have HK : Hid (scanSorted lt dk b i = k) := by
                 show scanSorted lt dk b i = k
                 rw [← HS.out, scanSorted_stop lt dk b k (Or.inr (by rw [← HG.out, ← HG.out]; exact hl))]
               first
                 | (at_ret
                    have hv : Sort.partialInsertionSort lt d a b = (dk, false) := by
                      unfold Sort.partialInsertionSort
                      rw [← HO.out, pi_short lt a b s i dk hs (by rw [HK.out]; omega) (by omega)]
                    rw [hv]
                    go_ret
                    exact ⟨rfl, m + nq, by rw [HW.out]; exact putRow_drewN _ _ _ _ _ _ _⟩)
                 | (at_region 11
                    have h50 : ¬ b - a < 50 := by omega
                    go_region
                    have hsw : ((wr.drewN (nq + 1)).setCell ⟨blk, off + k, none⟩ (.float .f64 (fw (G (k - 1))))).setCell ⟨blk, off + (k - 1), none⟩ (.float .f64 (fw (G k))) = putRow (encW fw) (Sort.ahead w (m + (nq + 1))) blk off (swp dk k (k - 1)) := by
                      rw [HW.out, HG.out, HG.out]
                      exact swap_worldA _ w m (nq + 1) blk off dk k (k - 1) (by omega) (by omega)
                    have hs1 : (swp dk k (k - 1)).size = d.size := by rw [size_swp]; exact hsk
                    go_wp2
                    all_goals first
                      | (at_loop
                         have hka : k - a ≥ 2 := by omega
                         go_loopw [9] (fun vj wr2 => ∃ (j m2 : Nat) (dj : Array Int), vj = .int .i64 j ∧ j ≤ k - 1 ∧ dj.size = d.size ∧ wr2 = putRow (encW fw) (Sort.ahead w m2) blk off dj ∧
                             shiftDown lt j dj = shiftDown lt (k - 1) (swp dk k (k - 1))) (fun vj _ => (intOf vj).toNat)
                         case atStart => exact ⟨k - 1, _, (swp dk k (k - 1)), by congr 1; omega, Nat.le_refl _, hs1, rfl, rfl⟩
                         case round =>
                           obtain ⟨j, m2, dj, rfl, hjk, hsj, hw2, hDn⟩ := hrel
                           obtain ⟨G, hG⟩ : ∃ G : Nat → Int, ∀ t, G t = dj[t]! := ⟨fun t => dj[t]!, fun _ => rfl⟩
                           have hcw : ∀ t, t < d.size → wr.cell? ⟨blk, off + t, none⟩ = some (.float .f64 (fw (G t))) := fun t ht => by
                             rw [hw2, hG]; exact cell?_putRow _ _ _ _ d dj (holds_ahead _ _ _ _ _ _ HH.out) hsj t (by omega)
                           have hfw : ∀ t, t < d.size → wr.frozen? ⟨blk, off + t, none⟩ = false := fun t ht => by
                             rw [hw2, frozen?_putRow]; exact ((holds_ahead _ _ m2 _ _ _ HH.out) t ht).2
                           have HW : Hid (wr = putRow (encW fw) (Sort.ahead w m2) blk off dj) := hw2
                           have HG : Hid (∀ t, G t = dj[t]!) := hG
                           have HDn : Hid (shiftDown lt j dj = shiftDown lt (k - 1) (swp dk k (k - 1))) := hDn
                           clear hw2 hG hDn hsw
                           go_wp2
                           all_goals first
                             | (at_region 16
                                go_quiet (first | (go_at_call 231; refine Calls.quiet_of_same (HLS.out _ _ _)))
                                go_wp2
                                all_goals first
                                  | (at_region 17
                                     have hl : lt (G j) (G (j - 1)) = true := by
                                       have h : (!lt (G j) (G (j - 1))) = false := by assumption
                                       simpa using h
                                     go_region
                                     all_goals go_wp2
                                     go_roundw
                                     case rel =>
                                       refine ⟨j - 1, m2 + (nq + 1), swp dj j (j - 1), by congr 1; omega, by omega, by rw [size_swp]; exact hsj, ?_, ?_⟩
                                       · rw [HW.out, HG.out, HG.out]
                                         exact swap_worldA _ w m2 (nq + 1) blk off dj j (j - 1) (by omega) (by omega)
                                       · rw [← HDn.out, shiftDown_go lt j dj (by omega) (by rw [← HG.out, ← HG.out]; exact hl)]
                                     case measure => simp [intOf]; omega)
                                  | (-- break
                                     have hl : lt (G j) (G (j - 1)) = false := by
                                       have h : (!lt (G j) (G (j - 1))) = true := by assumption
                                       simpa using h
                                     have HD : Hid (fixDown lt a k (swp dk k (k - 1)) = dj) := by
                                       show fixDown lt a k (swp dk k (k - 1)) = dj
                                       unfold fixDown; rw [if_pos hka, ← HDn.out, shiftDown_stop lt j dj (Or.inr (by rw [← HG.out, ← HG.out]; exact hl))]
                                     first
                                       | (at_end
                                          go_roundw
                                          case rel =>
                                            refine ⟨k, s + 1, _, dj, rfl, by go_num, by omega, by omega, by omega, hsj, (by first | rfl | exact HW.out | (rw [HW.out]; exact putRow_drewN _ _ _ _ _ _ _)), ?_⟩
                                            rw [← HO.out, pi_go lt a b s i k dk hs HK.out (by omega) (by omega), HD.out, show fixUp lt b k dj = dj from by unfold fixUp; rw [if_neg (by omega)]]
                                          case measure => simp [intOf]; omega)
                                       | (at_loop
                                          go_loopw [10] (fun vj wr2 => ∃ (j m3 : Nat) (du : Array Int), vj = .int .i64 j ∧ k + 1 ≤ j ∧ j ≤ b ∧ du.size = d.size ∧ wr2 = putRow (encW fw) (Sort.ahead w m3) blk off du ∧
                                              shiftUp lt b j du = shiftUp lt b (k + 1) dj) (fun vj _ => b - (intOf vj).toNat)
                                          case atStart => exact ⟨k + 1, _, dj, by go_num, Nat.le_refl _, by omega, hsj, (by first | rfl | exact HW.out | (rw [HW.out]; exact putRow_drewN _ _ _ _ _ _ _)), rfl⟩
                                          case round =>
                                            obtain ⟨j, m3, du, rfl, hkj, hjb, hsu, hw3, hU⟩ := hrel
                                            obtain ⟨G, hG⟩ : ∃ G : Nat → Int, ∀ t, G t = du[t]! := ⟨fun t => du[t]!, fun _ => rfl⟩
                                            have hcw : ∀ t, t < d.size → wr.cell? ⟨blk, off + t, none⟩ = some (.float .f64 (fw (G t))) := fun t ht => by
                                              rw [hw3, hG]; exact cell?_putRow _ _ _ _ d du (holds_ahead _ _ _ _ _ _ HH.out) hsu t (by omega)
                                            have hfw : ∀ t, t < d.size → wr.frozen? ⟨blk, off + t, none⟩ = false := fun t ht => by
                                              rw [hw3, frozen?_putRow]; exact ((holds_ahead _ _ m3 _ _ _ HH.out) t ht).2
                                            have HW : Hid (wr = putRow (encW fw) (Sort.ahead w m3) blk off du) := hw3
                                            have HG : Hid (∀ t, G t = du[t]!) := hG
                                            have HU : Hid (shiftUp lt b j du = shiftUp lt b (k + 1) dj) := hU
                                            clear hw3 hG hU
                                            go_wp2
                                            all_goals first
                                              | (at_region 22
                                                 go_quiet (first | (go_at_call 231; refine Calls.quiet_of_same (HLS.out _ _ _)))
                                                 go_wp2
                                                 all_goals first
                                                   | (at_region 23
                                                      have hl : lt (G j) (G (j - 1)) = true := by
                                                        have h : (!lt (G j) (G (j - 1))) = false := by assumption
                                                        simpa using h
                                                      go_region
                                                      all_goals go_wp2
                                                      go_roundw
                                                      case rel =>
                                                        refine ⟨j + 1, m3 + (nq + 1), swp du j (j - 1), by go_num, by omega, by omega, by rw [size_swp]; exact hsu, ?_, ?_⟩
                                                        · rw [HW.out, HG.out, HG.out]
                                                          exact swap_worldA _ w m3 (nq + 1) blk off du j (j - 1) (by omega) (by omega)
                                                        · rw [← HU.out, shiftUp_go lt b j du (by omega) (by rw [← HG.out, ← HG.out]; exact hl)]
                                                      case measure => simp [intOf]; omega)
                                                   | (at_end
                                                      have hl : lt (G j) (G (j - 1)) = false := by
                                                        have h : (!lt (G j) (G (j - 1))) = true := by assumption
                                                        simpa using h
                                                      go_roundw
                                                      case rel =>
                                                        refine ⟨k, s + 1, _, du, rfl, by go_num, by omega, by omega, by omega, hsu, (by first | rfl | exact HW.out | (rw [HW.out]; exact putRow_drewN _ _ _ _ _ _ _)), ?_⟩
                                                        rw [← HO.out, pi_go lt a b s i k dk hs HK.out (by omega) (by omega), HD.out, show fixUp lt b k dj = du from by unfold fixUp; rw [if_pos (by omega), ← HU.out, shiftUp_stop lt b j du (Or.inr (by rw [← HG.out, ← HG.out]; exact hl))]]
                                                      case measure => simp [intOf]; omega))
                                              | (at_end
                                                 go_roundw
                                                 case rel =>
                                                   refine ⟨k, s + 1, _, du, rfl, by go_num, by omega, by omega, by omega, hsu, (by first | rfl | exact HW.out | (rw [HW.out]; exact putRow_drewN _ _ _ _ _ _ _)), ?_⟩
                                                   rw [← HO.out, pi_go lt a b s i k dk hs HK.out (by omega) (by omega), HD.out, show fixUp lt b k dj = du from by unfold fixUp; rw [if_pos (by omega), ← HU.out, shiftUp_stop lt b j du (Or.inl (by omega))]]
                                                 case measure => simp [intOf]; omega))))
                             | (-- j < 1
                                have HD : Hid (fixDown lt a k (swp dk k (k - 1)) = dj) := by
                                  show fixDown lt a k (swp dk k (k - 1)) = dj
                                  unfold fixDown; rw [if_pos hka, ← HDn.out, shiftDown_stop lt j dj (Or.inl (by omega))]
                                first
                                  | (at_end
                                     go_roundw
                                     case rel =>
                                       refine ⟨k, s + 1, _, dj, rfl, by go_num, by omega, by omega, by omega, hsj, (by first | rfl | exact HW.out | (rw [HW.out]; exact putRow_drewN _ _ _ _ _ _ _)), ?_⟩
                                       rw [← HO.out, pi_go lt a b s i k dk hs HK.out (by omega) (by omega), HD.out, show fixUp lt b k dj = dj from by unfold fixUp; rw [if_neg (by omega)]]
                                     case measure => simp [intOf]; omega)
                                  | (at_loop
                                     go_loopw [10] (fun vj wr2 => ∃ (j m3 : Nat) (du : Array Int), vj = .int .i64 j ∧ k + 1 ≤ j ∧ j ≤ b ∧ du.size = d.size ∧ wr2 = putRow (encW fw) (Sort.ahead w m3) blk off du ∧
                                         shiftUp lt b j du = shiftUp lt b (k + 1) dj) (fun vj _ => b - (intOf vj).toNat)
                                     case atStart => exact ⟨k + 1, _, dj, by go_num, Nat.le_refl _, by omega, hsj, (by first | rfl | exact HW.out | (rw [HW.out]; exact putRow_drewN _ _ _ _ _ _ _)), rfl⟩
                                     case round =>
                                       obtain ⟨j, m3, du, rfl, hkj, hjb, hsu, hw3, hU⟩ := hrel
                                       obtain ⟨G, hG⟩ : ∃ G : Nat → Int, ∀ t, G t = du[t]! := ⟨fun t => du[t]!, fun _ => rfl⟩
                                       have hcw : ∀ t, t < d.size → wr.cell? ⟨blk, off + t, none⟩ = some (.float .f64 (fw (G t))) := fun t ht => by
                                         rw [hw3, hG]; exact cell?_putRow _ _ _ _ d du (holds_ahead _ _ _ _ _ _ HH.out) hsu t (by omega)
                                       have hfw : ∀ t, t < d.size → wr.frozen? ⟨blk, off + t, none⟩ = false := fun t ht => by
                                         rw [hw3, frozen?_putRow]; exact ((holds_ahead _ _ m3 _ _ _ HH.out) t ht).2
                                       have HW : Hid (wr = putRow (encW fw) (Sort.ahead w m3) blk off du) := hw3
                                       have HG : Hid (∀ t, G t = du[t]!) := hG
                                       have HU : Hid (shiftUp lt b j du = shiftUp lt b (k + 1) dj) := hU
                                       clear hw3 hG hU
                                       go_wp2
                                       all_goals first
                                         | (at_region 22
                                            go_quiet (first | (go_at_call 231; refine Calls.quiet_of_same (HLS.out _ _ _)))
                                            go_wp2
                                            all_goals first
                                              | (at_region 23
                                                 have hl : lt (G j) (G (j - 1)) = true := by
                                                   have h : (!lt (G j) (G (j - 1))) = false := by assumption
                                                   simpa using h
                                                 go_region
                                                 all_goals go_wp2
                                                 go_roundw
                                                 case rel =>
                                                   refine ⟨j + 1, m3 + (nq + 1), swp du j (j - 1), by go_num, by omega, by omega, by rw [size_swp]; exact hsu, ?_, ?_⟩
                                                   · rw [HW.out, HG.out, HG.out]
                                                     exact swap_worldA _ w m3 (nq + 1) blk off du j (j - 1) (by omega) (by omega)
                                                   · rw [← HU.out, shiftUp_go lt b j du (by omega) (by rw [← HG.out, ← HG.out]; exact hl)]
                                                 case measure => simp [intOf]; omega)
                                              | (at_end
                                                 have hl : lt (G j) (G (j - 1)) = false := by
                                                   have h : (!lt (G j) (G (j - 1))) = true := by assumption
                                                   simpa using h
                                                 go_roundw
                                                 case rel =>
                                                   refine ⟨k, s + 1, _, du, rfl, by go_num, by omega, by omega, by omega, hsu, (by first | rfl | exact HW.out | (rw [HW.out]; exact putRow_drewN _ _ _ _ _ _ _)), ?_⟩
                                                   rw [← HO.out, pi_go lt a b s i k dk hs HK.out (by omega) (by omega), HD.out, show fixUp lt b k dj = du from by unfold fixUp; rw [if_pos (by omega), ← HU.out, shiftUp_stop lt b j du (Or.inr (by rw [← HG.out, ← HG.out]; exact hl))]]
                                                 case measure => simp [intOf]; omega))
                                         | (at_end
                                            go_roundw
                                            case rel =>
                                              refine ⟨k, s + 1, _, du, rfl, by go_num, by omega, by omega, by omega, hsu, (by first | rfl | exact HW.out | (rw [HW.out]; exact putRow_drewN _ _ _ _ _ _ _)), ?_⟩
                                              rw [← HO.out, pi_go lt a b s i k dk hs HK.out (by omega) (by omega), HD.out, show fixUp lt b k dj = du from by unfold fixUp; rw [if_pos (by omega), ← HU.out, shiftUp_stop lt b j du (Or.inl (by omega))]]
                                            case measure => simp [intOf]; omega))))
                      | (-- i - a < 2
                         have HD : Hid (fixDown lt a k (swp dk k (k - 1)) = (swp dk k (k - 1))) := by
                           show fixDown lt a k (swp dk k (k - 1)) = (swp dk k (k - 1))
                           unfold fixDown; rw [if_neg (by omega)]
                         first
                           | (at_end
                              go_roundw
                              case rel =>
                                refine ⟨k, s + 1, _, (swp dk k (k - 1)), rfl, by go_num, by omega, by omega, by omega, hs1, (by first | rfl | exact HW.out | (rw [HW.out]; exact putRow_drewN _ _ _ _ _ _ _)), ?_⟩
                                rw [← HO.out, pi_go lt a b s i k dk hs HK.out (by omega) (by omega), HD.out, show fixUp lt b k (swp dk k (k - 1)) = (swp dk k (k - 1)) from by unfold fixUp; rw [if_neg (by omega)]]
                              case measure => simp [intOf]; omega)
                           | (at_loop
                              go_loopw [10] (fun vj wr2 => ∃ (j m3 : Nat) (du : Array Int), vj = .int .i64 j ∧ k + 1 ≤ j ∧ j ≤ b ∧ du.size = d.size ∧ wr2 = putRow (encW fw) (Sort.ahead w m3) blk off du ∧
                                  shiftUp lt b j du = shiftUp lt b (k + 1) (swp dk k (k - 1))) (fun vj _ => b - (intOf vj).toNat)
                              case atStart => exact ⟨k + 1, _, (swp dk k (k - 1)), by go_num, Nat.le_refl _, by omega, hs1, (by first | rfl | exact HW.out | (rw [HW.out]; exact putRow_drewN _ _ _ _ _ _ _)), rfl⟩
                              case round =>
                                obtain ⟨j, m3, du, rfl, hkj, hjb, hsu, hw3, hU⟩ := hrel
                                obtain ⟨G, hG⟩ : ∃ G : Nat → Int, ∀ t, G t = du[t]! := ⟨fun t => du[t]!, fun _ => rfl⟩
                                have hcw : ∀ t, t < d.size → wr.cell? ⟨blk, off + t, none⟩ = some (.float .f64 (fw (G t))) := fun t ht => by
                                  rw [hw3, hG]; exact cell?_putRow _ _ _ _ d du (holds_ahead _ _ _ _ _ _ HH.out) hsu t (by omega)
                                have hfw : ∀ t, t < d.size → wr.frozen? ⟨blk, off + t, none⟩ = false := fun t ht => by
                                  rw [hw3, frozen?_putRow]; exact ((holds_ahead _ _ m3 _ _ _ HH.out) t ht).2
                                have HW : Hid (wr = putRow (encW fw) (Sort.ahead w m3) blk off du) := hw3
                                have HG : Hid (∀ t, G t = du[t]!) := hG
                                have HU : Hid (shiftUp lt b j du = shiftUp lt b (k + 1) (swp dk k (k - 1))) := hU
                                clear hw3 hG hU
                                go_wp2
                                all_goals first
                                  | (at_region 22
                                     go_quiet (first | (go_at_call 231; refine Calls.quiet_of_same (HLS.out _ _ _)))
                                     go_wp2
                                     all_goals first
                                       | (at_region 23
                                          have hl : lt (G j) (G (j - 1)) = true := by
                                            have h : (!lt (G j) (G (j - 1))) = false := by assumption
                                            simpa using h
                                          go_region
                                          all_goals go_wp2
                                          go_roundw
                                          case rel =>
                                            refine ⟨j + 1, m3 + (nq + 1), swp du j (j - 1), by go_num, by omega, by omega, by rw [size_swp]; exact hsu, ?_, ?_⟩
                                            · rw [HW.out, HG.out, HG.out]
                                              exact swap_worldA _ w m3 (nq + 1) blk off du j (j - 1) (by omega) (by omega)
                                            · rw [← HU.out, shiftUp_go lt b j du (by omega) (by rw [← HG.out, ← HG.out]; exact hl)]
                                          case measure => simp [intOf]; omega)
                                       | (at_end
                                          have hl : lt (G j) (G (j - 1)) = false := by
                                            have h : (!lt (G j) (G (j - 1))) = true := by assumption
                                            simpa using h
                                          go_roundw
                                          case rel =>
                                            refine ⟨k, s + 1, _, du, rfl, by go_num, by omega, by omega, by omega, hsu, (by first | rfl | exact HW.out | (rw [HW.out]; exact putRow_drewN _ _ _ _ _ _ _)), ?_⟩
                                            rw [← HO.out, pi_go lt a b s i k dk hs HK.out (by omega) (by omega), HD.out, show fixUp lt b k (swp dk k (k - 1)) = du from by unfold fixUp; rw [if_pos (by omega), ← HU.out, shiftUp_stop lt b j du (Or.inr (by rw [← HG.out, ← HG.out]; exact hl))]]
                                          case measure => simp [intOf]; omega))
                                  | (at_end
                                     go_roundw
                                     case rel =>
                                       refine ⟨k, s + 1, _, du, rfl, by go_num, by omega, by omega, by omega, hsu, (by first | rfl | exact HW.out | (rw [HW.out]; exact putRow_drewN _ _ _ _ _ _ _)), ?_⟩
                                       rw [← HO.out, pi_go lt a b s i k dk hs HK.out (by omega) (by omega), HD.out, show fixUp lt b k (swp dk k (k - 1)) = du from by unfold fixUp; rw [if_pos (by omega), ← HU.out, shiftUp_stop lt b j du (Or.inl (by omega))]]
                                     case measure => simp [intOf]; omega)))))
        ·
          go_quiet (first | (go_at_call 231; refine Calls.quiet_of_same (HLS.out _ _ _)))
          go_wp2
          obtain rfl : k = b := by omega
          have hv : Sort.partialInsertionSort lt d a k = (dk, true) := by
            unfold Sort.partialInsertionSort
            rw [← HO.out, pi_true lt a k s i dk hs (by rw [← HS.out, scanSorted_stop lt dk k k (Or.inl (by omega))])]
          rw [hv]
          go_ret
          exact ⟨rfl, m + nq, by rw [HW.out]; exact putRow_drewN _ _ _ _ _ _ _⟩
    ·
      obtain rfl : s = 5 := by omega
      have hv : Sort.partialInsertionSort lt d a b = (dk, false) := by
        unfold Sort.partialInsertionSort
        rw [← HO.out, pi_end]
      rw [hv]
      go_ret
      exact ⟨rfl, n, rfl⟩

theorem partial_f (blk off cap a b : Nat) (d : Array Int) (w : World) (hH : Holds encF w blk off d) (hab : a < b) (hb : b ≤ d.size) (hsz : d.size < 4611686018427387904) :
    Calls Tryz.prog 230 #[.slice (some ⟨blk, off, none⟩) d.size cap, .int .i64 a, .int .i64 b] w fun e w' =>
      e = .returned (.bool (Sort.partialInsertionSort ltF d a b).2) ∧ ∃ n, w' = putRow encF (Sort.ahead w n) blk off (Sort.partialInsertionSort ltF d a b).1 :=
  partial_g fW ltF (Lib.hid less_f) blk off cap a b d w hH hab hb hsz

end Go.Proofs.YtpcfmkongpmmmaaGreatDoor
