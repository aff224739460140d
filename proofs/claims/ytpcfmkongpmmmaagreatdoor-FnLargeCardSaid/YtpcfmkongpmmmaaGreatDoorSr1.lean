/-
  The order of float words, as the library's sort asks for it.
  insertionSortOrdered at float64: it computes what the plain function computes.
  reverseRangeOrdered at float64.
  siftDownOrdered at float64.
  heapSortOrdered at float64.
-/
import Derived.Test.YtpcfmkongpmmmaaGreatDoorN
import Derived.Sort.WalkA
import Derived.Sort.AssemblyPlain
import Derived.BigRegion
import Derived.Deep.LoopGhost
import Derived.Sort.WalkB3
namespace Go.Proofs.YtpcfmkongpmmmaaGreatDoor
set_option linter.unusedSimpArgs false
set_option linter.unusedVariables false
open Go Go.RowKit
set_option maxRecDepth 100000

/-- A number of sixteenths within bounds. -/
def cl (z : Int) : Int := if z < -4503599627370496 then -4503599627370496 else if 4503599627370496 < z then 4503599627370496 else z

theorem cl_le (z : Int) : -4503599627370496 ≤ cl z ∧ cl z ≤ 4503599627370496 := by
  unfold cl
  split
  · omega
  · split <;> omega

theorem cl_id {z : Int} (h1 : -4503599627370496 ≤ z) (h2 : z ≤ 4503599627370496) : cl z = z := by unfold cl; rw [if_neg (by omega), if_neg (by omega)]

/-- Its word. -/
def fW (z : Int) : Nat := f16 (cl z)
abbrev encF (z : Int) : Value := .float .f64 (fW z)
def ltF (a b : Int) : Bool := decide (cl a < cl b)

theorem swoF : Go.Sort.SWO ltF where
  irrefl := fun x => by unfold ltF; rw [decide_eq_false_iff_not]; omega
  trans := fun x y z h1 h2 => by unfold ltF at *; rw [decide_eq_true_eq] at *; omega
  ntrans := fun x y z h1 h2 => by unfold ltF at *; rw [decide_eq_false_iff_not] at *; omega

theorem fW_self (z : Int) : FloatKind.f64.format.order (fW z) (fW z) = some Ordering.eq := by
  have h := cl_le z
  unfold fW
  rw [order_f16 (by omega) (by omega) (by omega) (by omega), cmp_eq rfl]

theorem fW_lt (a b : Int) : (FloatKind.f64.format.order (fW a) (fW b) == some Ordering.lt) = ltF a b := by
  have h1 := cl_le a; have h2 := cl_le b
  unfold fW ltF
  rw [order_f16 (by omega) (by omega) (by omega) (by omega)]
  rcases Int.lt_trichotomy (cl a) (cl b) with h | h | h
  · rw [cmp_lt h, decide_eq_true h]; rfl
  · rw [cmp_eq h, decide_eq_false (by omega)]; rfl
  · rw [cmp_gt h, decide_eq_false (by omega)]; rfl

set_option maxHeartbeats 400000 in
theorem isNaN_f (z : Int) (w : World) : Calls Tryz.prog 246 #[encF z] w fun e w' => e = .returned (.bool false) ∧ w' = w := by
  have h := fW_self z
  go_enter Tryz.func246, Tryz.ntmps246
  go_wp2
  go_ret
  exact ⟨by simp [h], rfl⟩

set_option maxHeartbeats 400000 in
theorem less_f (a b : Int) (w : World) : Calls Tryz.prog 231 #[encF a, encF b] w fun e w' => e = .returned (.bool (ltF a b)) ∧ w' = w := by
  have h := fW_lt a b
  have HN := Lib.hid (fun w => isNaN_f a w)
  unfold encF at *
  generalize fW a = x at h HN ⊢
  generalize fW b = y at h ⊢
  generalize ltF a b = r at h ⊢
  go_enter Tryz.func231, Tryz.ntmps231
  go_wp2_with fail
  refine (HN.out _).mono ?_
  rintro e w1 ⟨rfl, rfl⟩
  go_wp2
  go_ret
  exact ⟨by simp, rfl⟩
end Go.Proofs.YtpcfmkongpmmmaaGreatDoor

namespace Go.Proofs.YtpcfmkongpmmmaaGreatDoor
open Go Go.RowKit
open Go.Sort (Holds putRow insInner insOuter swp)
set_option maxRecDepth 100000

/-- One inner round's place. -/
def InJ (blk off a i m0 : Nat) (dk d : Array Int) (w w2 : World) (v : Value) : Prop :=
  ∃ (j m : Nat) (dj : Array Int), v = .int .i64 j ∧ a ≤ j ∧ j ≤ i ∧ dj.size = d.size ∧ w2 = putRow encF (Go.Sort.ahead w m) blk off dj ∧ insInner ltF a j dj = insInner ltF a i dk

def OutI (blk off a b : Nat) (d : Array Int) (w w2 : World) (v : Value) : Prop :=
  ∃ (i n : Nat) (dk : Array Int), v = .int .i64 i ∧ a < i ∧ i ≤ b + 1 ∧ dk.size = d.size ∧ w2 = putRow encF (Go.Sort.ahead w n) blk off dk ∧ insOuter ltF a b i dk = insOuter ltF a b (a + 1) d

set_option maxHeartbeats 3200000 in
theorem insertion_f (blk off cap a b : Nat) (d : Array Int) (w : World) (hH : Holds encF w blk off d) (hab : a ≤ b) (hb : b ≤ d.size) (hsz : d.size < 4611686018427387904) :
    Calls Tryz.prog 225 #[.slice (some ⟨blk, off, none⟩) d.size cap, .int .i64 a, .int .i64 b] w fun e w' =>
      e = .returned (.tuple #[]) ∧ ∃ n, w' = putRow encF (Go.Sort.ahead w n) blk off (Go.Sort.insertionSort ltF d a b) := by
  go_enter Tryz.func225, Tryz.ntmps225
  go_wp2
  go_loopw [6] (fun vi wr => OutI blk off a b d w wr vi) (fun vi _ => b + 1 - (intOf vi).toNat)
  case atStart => exact ⟨a + 1, 0, d, by go_num, by omega, by omega, rfl, (Go.Sort.putRow_self _ _ _ _ _ hH).symm, rfl⟩
  case round =>
    generalize wr = wo at *
    obtain ⟨i, n, dk, rfl, hai, hib, hsk, hwr, hO⟩ := hrel
    have HO := Lib.hid hO; have HWO := Lib.hid hwr
    clear hO hwr
    by_cases hlt : i < b
    · go_wp2
      go_loopw [7] (fun vj w2 => InJ blk off a i n dk d w w2 vj) (fun vj _ => (intOf vj).toNat)
      case atStart => exact ⟨i, n, dk, rfl, by omega, Nat.le_refl _, hsk, HWO.out, rfl⟩
      case round =>
        obtain ⟨j, m, dj, rfl, haj, hji, hsj, hw2, hI⟩ := hrel
        obtain ⟨G, hG⟩ : ∃ G : Nat → Int, ∀ t, G t = dj[t]! := ⟨fun t => dj[t]!, fun _ => rfl⟩
        have hcw : ∀ t, t < d.size → wr.cell? ⟨blk, off + t, none⟩ = some (.float .f64 (fW (G t))) := fun t ht => by
          rw [hw2, hG]; exact Go.Sort.cell?_putRow _ _ _ _ d dj (Go.Sort.holds_ahead _ _ _ _ _ _ hH) hsj t (by omega)
        have hfw : ∀ t, t < d.size → wr.frozen? ⟨blk, off + t, none⟩ = false := fun t ht => by
          rw [hw2, Go.Sort.frozen?_putRow]; exact ((Go.Sort.holds_ahead _ _ m _ _ _ hH) t ht).2
        have HW := Lib.hid hw2; have HG := Lib.hid hG; have HI := Lib.hid hI; have HH := Lib.hid hH
        clear hw2 hG hI hH
        by_cases hja : a < j
        · cases hl : ltF (G j) (G (j - 1))
          · have hll := less_f (G j) (G (j - 1))
            rw [hl] at hll
            have HLL := Lib.hid hll; have HLT := Lib.hid hl
            clear hll hl
            go_wp2_with fail
            go_quiet (first | (go_at_call 231; refine Calls.quiet_of_same (HLL.out _)))
            have HS : j ≤ a ∨ ltF dj[j]! dj[j - 1]! = false := Or.inr (by rw [← HG.out, ← HG.out]; exact HLT.out)
            have HSS := Lib.hid HS
            clear HS
            go_wp2
            go_roundw
            case rel => exact ⟨i + 1, m + nq, dj, by go_num, by omega, by omega, hsj, by rw [HW.out]; exact putRow_drewN _ _ _ _ _ _ _, by rw [← HO.out, insOuter_go _ _ _ _ _ hlt, ← HI.out, insInner_stop _ _ _ _ HSS.out]⟩
            case measure => simp [intOf]; omega
          · have hll := less_f (G j) (G (j - 1))
            rw [hl] at hll
            have HLL := Lib.hid hll; have HLT := Lib.hid hl
            clear hll hl
            go_wp2_with fail
            go_quiet (first | (go_at_call 231; refine Calls.quiet_of_same (HLL.out _)))
            go_wp2
            go_region
            all_goals go_wp2
            go_roundw
            case rel =>
              refine ⟨j - 1, m + (nq + 1), swp dj j (j - 1), by congr 1; omega, by omega, by omega, by rw [Go.Sort.size_swp]; exact hsj, ?_, ?_⟩
              · rw [HW.out, HG.out, HG.out]
                exact swap_worldA encF w m (nq + 1) blk off dj j (j - 1) (by omega) (by omega)
              · rw [← HI.out, insInner_go ltF a j dj hja (by rw [← HG.out, ← HG.out]; exact HLT.out)]
            case measure => simp [intOf]; omega
        · have HSS := Lib.hid (show j ≤ a ∨ ltF dj[j]! dj[j - 1]! = false from Or.inl (by omega))
          go_wp2_with fail
          go_quiet (fail)
          go_wp2
          go_roundw
          case rel => exact ⟨i + 1, m + nq, dj, by go_num, by omega, by omega, hsj, by rw [HW.out]; exact putRow_drewN _ _ _ _ _ _ _, by rw [← HO.out, insOuter_go _ _ _ _ _ hlt, ← HI.out, insInner_stop _ _ _ _ HSS.out]⟩
          case measure => simp [intOf]; omega
    · go_wp2
      go_end0
      exact ⟨rfl, n, by unfold Go.Sort.insertionSort; rw [HWO.out, ← HO.out, insOuter_stop _ _ _ _ _ hlt]⟩
end Go.Proofs.YtpcfmkongpmmmaaGreatDoor

namespace Go.Proofs.YtpcfmkongpmmmaaGreatDoor
open Go Go.RowKit
open Go.Sort (Holds putRow swp reverseLoop)
set_option maxRecDepth 100000

/-- The places of both ends. -/
def RevSt (blk off a b : Nat) (d : Array Int) (w w2 : World) (s6 s7 : Value) (k : Nat) : Prop :=
  ∃ (i jn : Nat) (jz : Int) (dk : Array Int) (n : Nat), s6 = .int .i64 i ∧ s7 = .int .i64 jz ∧ -1 ≤ jz ∧ i ≤ d.size ∧ ((i : Int) < jz → jz = jn ∧ jn < d.size) ∧ (¬ (i : Int) < jz → ¬ i < jn) ∧ jn - i ≤ k ∧
    dk.size = d.size ∧ w2 = putRow encF (Go.Sort.ahead w n) blk off dk ∧ reverseLoop i jn dk = reverseLoop a (b - 1) d

/-- Two words change places, then one draw. -/
theorem swap_drewF {w wr : World} {n blk off i j : Nat} {dk : Array Int} (hi : i < dk.size) (hj : j < dk.size) (hwr : wr = putRow encF (Go.Sort.ahead w n) blk off dk) :
    ((wr.setCell ⟨blk, off + i, none⟩ (encF dk[j]!)).setCell ⟨blk, off + j, none⟩ (encF dk[i]!)).drew = putRow encF (Go.Sort.ahead w (n + 1)) blk off (swp dk i j) := by
  subst hwr
  rw [Go.Sort.putRow_swp encF _ blk off dk i j hi hj, ← Go.Sort.ahead_drew]
  rfl

set_option maxHeartbeats 3200000 in
theorem reverse_f (blk off cap a b : Nat) (d : Array Int) (w : World) (hH : Holds encF w blk off d) (hab : a ≤ b) (hb : b ≤ d.size) (hsz : d.size < 4611686018427387904) :
    Calls Tryz.prog 229 #[.slice (some ⟨blk, off, none⟩) d.size cap, .int .i64 a, .int .i64 b] w fun e w' =>
      e = .returned (.tuple #[]) ∧ ∃ n, w' = putRow encF (Go.Sort.ahead w n) blk off (Go.Sort.reverseRange d a b) := by
  go_enter Tryz.func229, Tryz.ntmps229
  go_wp2
  go_loopg [6, 7] (b - a) (fun k s6 s7 wr => RevSt blk off a b d w wr s6 s7 k)
  case atStart => exact ⟨a, b - 1, (b : Int) - 1, d, 0, rfl, rfl, by omega, by omega, fun h => ⟨by omega, by omega⟩, fun h => by omega, by omega, rfl, (Go.Sort.putRow_self encF w blk off d hH).symm, rfl⟩
  case round =>
    obtain ⟨i, jn, jz, dk, n, rfl, rfl, hm1, hil, h1, h2, hk, hds, hwr, heq⟩ := hrel
    by_cases hlt : (i : Int) < jz
    · obtain ⟨rfl, hjn⟩ := h1 hlt
      have hij : i < jn := by omega
      have hHk : Holds encF wr blk off dk := by rw [hwr]; exact Go.Sort.holds_putRow encF _ blk off d dk (Go.Sort.holds_ahead encF w n blk off d hH) hds
      have q1 := hHk i (by omega)
      have q2 := hHk jn (by omega)
      have HWR := Lib.hid hwr; have HEQ := Lib.hid heq
      clear hwr hHk hH h1 h2 heq
      obtain ⟨ci, fi⟩ := q1
      obtain ⟨cj, fj⟩ := q2
      generalize hxi : dk[i]! = xi at ci
      generalize hxj : dk[jn]! = xj at cj
      have HXI := Lib.hid hxi; have HXJ := Lib.hid hxj
      clear hxi hxj
      go_wp2_with fail
      go_region
      go_wp2
      go_roundg (jn - 1 - (i + 1))
      case measure => omega
      case rel =>
        have h := HEQ.out
        rw [reverseLoop, if_pos hij] at h
        refine ⟨i + 1, jn - 1, (jn : Int) - 1, swp dk i jn, n + 1, by go_num, rfl, by omega, by omega, fun h => ⟨by omega, by omega⟩, fun h => by omega, Nat.le_refl _, by rw [Go.Sort.size_swp]; exact hds, ?_, h⟩
        have hsw := swap_drewF (by omega) (by omega) HWR.out (i := i) (j := jn)
        rw [HXI.out, HXJ.out] at hsw
        exact hsw
    · have hnot := h2 hlt
      have HWR := Lib.hid hwr; have HEQ := Lib.hid heq
      clear hwr heq h1 h2
      go_wp2
      go_end0
      refine ⟨rfl, n, ?_⟩
      have h := HEQ.out
      rw [reverseLoop, if_neg hnot] at h
      rw [Go.Sort.reverseRange, ← h]; exact HWR.out
end Go.Proofs.YtpcfmkongpmmmaaGreatDoor

namespace Go.Proofs.YtpcfmkongpmmmaaGreatDoor
open Go Go.RowKit
open Go.Sort (Holds putRow swp siftDown)
set_option maxRecDepth 100000

theorem wrapF {n : Int} (h1 : -9223372036854775808 ≤ n) (h2 : n ≤ 9223372036854775807) : IntKind.i64.wrap n = n := by
  simp only [IntKind.wrap, IntKind.bits, IntKind.signed]
  simp
  omega

theorem sift_end {lt : Int → Int → Bool} {hi first r : Nat} {d : Array Int} (h : 2 * r + 1 ≥ hi) : siftDown lt hi first r d = d := by rw [siftDown, dif_pos h]

/-- The greater child. -/
def Child (lt : Int → Int → Bool) (hi first r c : Nat) (d : Array Int) : Prop :=
  (c = 2 * r + 2 ∧ 2 * r + 2 < hi ∧ lt d[first + (2 * r + 1)]! d[first + (2 * r + 2)]! = true) ∨ (c = 2 * r + 1 ∧ (2 * r + 2 < hi → lt d[first + (2 * r + 1)]! d[first + (2 * r + 2)]! = false))

theorem sift_stop {lt : Int → Int → Bool} {hi first r c : Nat} {d : Array Int} (h : ¬ 2 * r + 1 ≥ hi) (hc : Child lt hi first r c d) (hl : lt d[first + r]! d[first + c]! = false) : siftDown lt hi first r d = d := by
  rw [siftDown, dif_neg h]
  rcases hc with ⟨rfl, h2, h3⟩ | ⟨rfl, h3⟩
  · rw [if_pos (by simp only [Bool.and_eq_true, decide_eq_true_eq]; exact ⟨h2, h3⟩), if_pos (by simp [hl])]
  · rw [if_neg (by
      simp only [Bool.and_eq_true, decide_eq_true_eq]
      rintro ⟨q1, q2⟩
      have h4 := h3 q1
      rw [show first + (2 * r + 2) = first + (2 * r + 1) + 1 by omega, q2] at h4
      cases h4), if_pos (by simp [hl])]

theorem sift_go {lt : Int → Int → Bool} {hi first r c : Nat} {d : Array Int} (h : ¬ 2 * r + 1 ≥ hi) (hc : Child lt hi first r c d) (hl : lt d[first + r]! d[first + c]! = true) :
    siftDown lt hi first r d = siftDown lt hi first c (swp d (first + r) (first + c)) := by
  rw [siftDown, dif_neg h]
  rcases hc with ⟨rfl, h2, h3⟩ | ⟨rfl, h3⟩
  · rw [if_pos (by simp only [Bool.and_eq_true, decide_eq_true_eq]; exact ⟨h2, h3⟩), if_neg (by simp [hl]), dif_pos h2]
  · rw [if_neg (by
      simp only [Bool.and_eq_true, decide_eq_true_eq]
      rintro ⟨q1, q2⟩
      have h4 := h3 q1
      rw [show first + (2 * r + 2) = first + (2 * r + 1) + 1 by omega, q2] at h4
      cases h4), if_neg (by simp [hl])]

def SiftSt (blk off hi first lo : Nat) (d : Array Int) (w w2 : World) (s8 : Value) : Prop :=
  ∃ (r n : Nat) (dk : Array Int), s8 = .int .i64 r ∧ r ≤ d.size ∧ dk.size = d.size ∧ w2 = putRow encF (Go.Sort.ahead w n) blk off dk ∧ siftDown ltF hi first r dk = siftDown ltF hi first lo d

set_option maxHeartbeats 6400000 in
theorem sift_f (blk off cap lo hi first : Nat) (d : Array Int) (w : World) (hH : Holds encF w blk off d) (hlo : lo ≤ hi) (hb : first + hi ≤ d.size) (hsz : d.size < 2305843009213693952) :
    Calls Tryz.prog 241 #[.slice (some ⟨blk, off, none⟩) d.size cap, .int .i64 lo, .int .i64 hi, .int .i64 first] w fun e w' =>
      e = .returned (.tuple #[]) ∧ ∃ n, w' = putRow encF (Go.Sort.ahead w n) blk off (siftDown ltF hi first lo d) := by
  go_enter Tryz.func241, Tryz.ntmps241
  go_wp2
  go_loopw [8] (fun s8 wr => SiftSt blk off hi first lo d w wr s8) (fun s8 _ => d.size - (intOf s8).toNat)
  case atStart => exact ⟨lo, 0, d, rfl, by omega, rfl, (Go.Sort.putRow_self encF w blk off d hH).symm, rfl⟩
  case round =>
    obtain ⟨r, n, dk, rfl, hr, hds, hwr, heq⟩ := hrel
    have HWR := Lib.hid hwr; have HEQ := Lib.hid heq; have HH := Lib.hid hH
    obtain ⟨G, hG⟩ : ∃ G : Nat → Int, ∀ t, G t = dk[t]! := ⟨fun t => dk[t]!, fun _ => rfl⟩
    have hcw : ∀ t, t < d.size → wr.cell? ⟨blk, off + t, none⟩ = some (.float .f64 (fW (G t))) := fun t ht => by
      rw [hwr, hG]; exact Go.Sort.cell?_putRow _ _ _ _ d dk (Go.Sort.holds_ahead _ _ _ _ _ _ hH) hds t (by omega)
    have hfw : ∀ t, t < d.size → wr.frozen? ⟨blk, off + t, none⟩ = false := fun t ht => by
      rw [hwr, Go.Sort.frozen?_putRow]; exact ((Go.Sort.holds_ahead _ _ n _ _ _ hH) t ht).2
    have HG := Lib.hid hG
    clear hwr heq hG hH
    by_cases h1 : 2 * r + 1 ≥ hi
    · go_wp2
      go_end0
      exact ⟨rfl, n, by rw [← HEQ.out, sift_end h1]; exact HWR.out⟩
    · by_cases h2 : 2 * r + 2 < hi
      · have hb1 : first + (2 * r + 1) < d.size := by omega
        have hb2 : first + (2 * r + 1) + 1 < d.size := by omega
        have hw1 : IntKind.i64.wrap (2 * (r : Int) + 1 + 1) = 2 * (r : Int) + 1 + 1 := wrapF (by omega) (by omega)
        have hw2 : IntKind.i64.wrap ((first : Int) + (2 * (r : Int) + 1)) = (first : Int) + (2 * (r : Int) + 1) := wrapF (by omega) (by omega)
        have hw3 : IntKind.i64.wrap ((first : Int) + (2 * (r : Int) + 1) + 1) = (first : Int) + (2 * (r : Int) + 1) + 1 := wrapF (by omega) (by omega)
        have hd2 : (2 * (r : Int) + 1 + 1 < (hi : Int)) := by omega
        cases hl1 : ltF (G (first + (2 * r + 1))) (G (first + (2 * r + 1) + 1))
        · skip
          have hll := less_f (G (first + (2 * r + 1))) (G (first + (2 * r + 1) + 1))
          rw [hl1] at hll
          have HLL := Lib.hid hll
          go_wp2_with fail
          go_quiet (first | (go_at_call 231; refine Calls.quiet_of_same (HLL.out _)))
          go_wp2_with fail
          have hcn : ∀ t, t < d.size → (wr.drewN nq).cell? ⟨blk, off + t, none⟩ = some (.float .f64 (fW (G t))) := fun t ht => hcw t ht
          have hfn : ∀ t, t < d.size → (wr.drewN nq).frozen? ⟨blk, off + t, none⟩ = false := fun t ht => hfw t ht
          obtain ⟨m, HWN⟩ : ∃ m, Hid (wr.drewN nq = putRow encF (Go.Sort.ahead w m) blk off dk) := ⟨n + nq, Lib.hid (by rw [HWR.out]; exact putRow_drewN _ _ _ _ _ _ _)⟩
          generalize wr.drewN nq = wn at hcn hfn HWN ⊢
          clear hcw hfw
          have hb3 : first + r < d.size := by omega
          have hw4 : IntKind.i64.wrap ((first : Int) + (r : Int)) = (first : Int) + (r : Int) := wrapF (by omega) (by omega)
          have hw5 : IntKind.i64.wrap ((first : Int) + (2 * (r : Int) + 1)) = (first : Int) + (2 * (r : Int) + 1) := wrapF (by omega) (by omega)
          have hb4 : first + (2 * r + 1) < d.size := by omega
          have hn3 : (0 : Int) ≤ (first : Int) + (r : Int) := by omega
          have hx3 : (first : Int) + (r : Int) < (d.size : Int) := by omega
          have ht3 : ((first : Int) + (r : Int)).toNat = first + r := by omega
          have hn4 : (0 : Int) ≤ (first : Int) + (2 * (r : Int) + 1) := by omega
          have hx4 : (first : Int) + (2 * (r : Int) + 1) < (d.size : Int) := by omega
          have ht4 : ((first : Int) + (2 * (r : Int) + 1)).toNat = first + (2 * r + 1) := by omega
          clear hll HLL
          have HL1 := Lib.hid hl1
          clear hl1
          have hch : Child ltF hi first r (2 * r + 1) dk := Or.inr ⟨rfl, fun _ => by rw [← HG.out, ← HG.out]; exact HL1.out⟩
          have HCH := Lib.hid hch
          clear hch
          cases hl2 : ltF (G (first + r)) (G (first + (2 * r + 1)))
          · have hll := less_f (G (first + r)) (G (first + (2 * r + 1)))
            rw [hl2] at hll
            have HLL := Lib.hid hll; have HL2 := Lib.hid hl2
            clear hll hl2
            go_wp2
            go_quiet (first | (go_at_call 231; refine Calls.quiet_of_same (HLL.out _)))
            go_wp2
            refine bodyPost_ret (v := .tuple #[]) (by simp [results, Tryz.results241, go_sem]) rfl ?_
            exact ⟨rfl, m + nq, by rw [← HEQ.out, sift_stop h1 HCH.out (by rw [← HG.out, ← HG.out]; exact HL2.out), HWN.out]; exact putRow_drewN _ _ _ _ _ _ _⟩
          · have hll := less_f (G (first + r)) (G (first + (2 * r + 1)))
            rw [hl2] at hll
            have HLL := Lib.hid hll; have HL2 := Lib.hid hl2
            clear hll hl2
            go_wp2
            go_quiet (first | (go_at_call 231; refine Calls.quiet_of_same (HLL.out _)))
            go_wp2
            go_region
            all_goals go_wp2
            refine ⟨⟨2 * r + 1, m + (nq + 1), swp dk (first + r) (first + (2 * r + 1)), by go_num, by omega, by rw [Go.Sort.size_swp]; exact hds, ?_, ?_⟩, by simp [intOf]; omega⟩
            · rw [HWN.out, HG.out, HG.out]
              exact swap_worldA encF w m (nq + 1) blk off dk (first + r) (first + (2 * r + 1)) (by omega) (by omega)
            · rw [← HEQ.out, sift_go h1 HCH.out (by rw [← HG.out, ← HG.out]; exact HL2.out)]
        · have hll := less_f (G (first + (2 * r + 1))) (G (first + (2 * r + 1) + 1))
          rw [hl1] at hll
          have HLL := Lib.hid hll
          go_wp2_with fail
          go_quiet (first | (go_at_call 231; refine Calls.quiet_of_same (HLL.out _)))
          have hcn : ∀ t, t < d.size → (wr.drewN nq).cell? ⟨blk, off + t, none⟩ = some (.float .f64 (fW (G t))) := fun t ht => hcw t ht
          have hfn : ∀ t, t < d.size → (wr.drewN nq).frozen? ⟨blk, off + t, none⟩ = false := fun t ht => hfw t ht
          obtain ⟨m, HWN⟩ : ∃ m, Hid (wr.drewN nq = putRow encF (Go.Sort.ahead w m) blk off dk) := ⟨n + nq, Lib.hid (by rw [HWR.out]; exact putRow_drewN _ _ _ _ _ _ _)⟩
          generalize wr.drewN nq = wn at hcn hfn HWN ⊢
          clear hcw hfw
          have hb3 : first + r < d.size := by omega
          have hw4 : IntKind.i64.wrap ((first : Int) + (r : Int)) = (first : Int) + (r : Int) := wrapF (by omega) (by omega)
          have hw5 : IntKind.i64.wrap ((first : Int) + (2 * (r : Int) + 1 + 1)) = (first : Int) + (2 * (r : Int) + 1 + 1) := wrapF (by omega) (by omega)
          have hb4 : first + (2 * r + 1 + 1) < d.size := by omega
          have hn3 : (0 : Int) ≤ (first : Int) + (r : Int) := by omega
          have hx3 : (first : Int) + (r : Int) < (d.size : Int) := by omega
          have ht3 : ((first : Int) + (r : Int)).toNat = first + r := by omega
          have hn4 : (0 : Int) ≤ (first : Int) + (2 * (r : Int) + 1 + 1) := by omega
          have hx4 : (first : Int) + (2 * (r : Int) + 1 + 1) < (d.size : Int) := by omega
          have ht4 : ((first : Int) + (2 * (r : Int) + 1 + 1)).toNat = first + (2 * r + 1 + 1) := by omega
          clear hll HLL
          have HL1 := Lib.hid hl1
          clear hl1
          have hch : Child ltF hi first r (2 * r + 1 + 1) dk := Or.inl ⟨rfl, h2, by rw [← HG.out, ← HG.out]; exact HL1.out⟩
          have HCH := Lib.hid hch
          clear hch
          cases hl2 : ltF (G (first + r)) (G (first + (2 * r + 1 + 1)))
          · have hll := less_f (G (first + r)) (G (first + (2 * r + 1 + 1)))
            rw [hl2] at hll
            have HLL := Lib.hid hll; have HL2 := Lib.hid hl2
            clear hll hl2
            go_wp2
            go_quiet (first | (go_at_call 231; refine Calls.quiet_of_same (HLL.out _)))
            go_wp2
            refine bodyPost_ret (v := .tuple #[]) (by simp [results, Tryz.results241, go_sem]) rfl ?_
            exact ⟨rfl, m + nq, by rw [← HEQ.out, sift_stop h1 HCH.out (by rw [← HG.out, ← HG.out]; exact HL2.out), HWN.out]; exact putRow_drewN _ _ _ _ _ _ _⟩
          · have hll := less_f (G (first + r)) (G (first + (2 * r + 1 + 1)))
            rw [hl2] at hll
            have HLL := Lib.hid hll; have HL2 := Lib.hid hl2
            clear hll hl2
            go_wp2
            go_quiet (first | (go_at_call 231; refine Calls.quiet_of_same (HLL.out _)))
            go_wp2
            go_region
            all_goals go_wp2
            refine ⟨⟨2 * r + 1 + 1, m + (nq + 1), swp dk (first + r) (first + (2 * r + 1 + 1)), by go_num, by omega, by rw [Go.Sort.size_swp]; exact hds, ?_, ?_⟩, by simp [intOf]; omega⟩
            · rw [HWN.out, HG.out, HG.out]
              exact swap_worldA encF w m (nq + 1) blk off dk (first + r) (first + (2 * r + 1 + 1)) (by omega) (by omega)
            · rw [← HEQ.out, sift_go h1 HCH.out (by rw [← HG.out, ← HG.out]; exact HL2.out)]
      · have hb1 : first + (2 * r + 1) < d.size := by omega
        have hw1 : IntKind.i64.wrap (2 * (r : Int) + 1 + 1) = 2 * (r : Int) + 1 + 1 := wrapF (by omega) (by omega)
        have hw2 : IntKind.i64.wrap ((first : Int) + (2 * (r : Int) + 1)) = (first : Int) + (2 * (r : Int) + 1) := wrapF (by omega) (by omega)
        have hd3 : decide (2 * (r : Int) + 1 + 1 < (hi : Int)) = false := decide_eq_false (by omega)
        go_wp2_with fail
        go_quiet (fail)
        go_wp2_with fail
        have hcn : ∀ t, t < d.size → (wr.drewN nq).cell? ⟨blk, off + t, none⟩ = some (.float .f64 (fW (G t))) := fun t ht => hcw t ht
        have hfn : ∀ t, t < d.size → (wr.drewN nq).frozen? ⟨blk, off + t, none⟩ = false := fun t ht => hfw t ht
        obtain ⟨m, HWN⟩ : ∃ m, Hid (wr.drewN nq = putRow encF (Go.Sort.ahead w m) blk off dk) := ⟨n + nq, Lib.hid (by rw [HWR.out]; exact putRow_drewN _ _ _ _ _ _ _)⟩
        generalize wr.drewN nq = wn at hcn hfn HWN ⊢
        clear hcw hfw
        have hb3 : first + r < d.size := by omega
        have hw4 : IntKind.i64.wrap ((first : Int) + (r : Int)) = (first : Int) + (r : Int) := wrapF (by omega) (by omega)
        have hw5 : IntKind.i64.wrap ((first : Int) + (2 * (r : Int) + 1)) = (first : Int) + (2 * (r : Int) + 1) := wrapF (by omega) (by omega)
        have hb4 : first + (2 * r + 1) < d.size := by omega
        have hn3 : (0 : Int) ≤ (first : Int) + (r : Int) := by omega
        have hx3 : (first : Int) + (r : Int) < (d.size : Int) := by omega
        have ht3 : ((first : Int) + (r : Int)).toNat = first + r := by omega
        have hn4 : (0 : Int) ≤ (first : Int) + (2 * (r : Int) + 1) := by omega
        have hx4 : (first : Int) + (2 * (r : Int) + 1) < (d.size : Int) := by omega
        have ht4 : ((first : Int) + (2 * (r : Int) + 1)).toNat = first + (2 * r + 1) := by omega
        have hch : Child ltF hi first r (2 * r + 1) dk := Or.inr ⟨rfl, fun h => absurd h h2⟩
        have HCH := Lib.hid hch
        clear hch
        cases hl2 : ltF (G (first + r)) (G (first + (2 * r + 1)))
        · have hll := less_f (G (first + r)) (G (first + (2 * r + 1)))
          rw [hl2] at hll
          have HLL := Lib.hid hll; have HL2 := Lib.hid hl2
          clear hll hl2
          go_wp2
          go_quiet (first | (go_at_call 231; refine Calls.quiet_of_same (HLL.out _)))
          go_wp2
          refine bodyPost_ret (v := .tuple #[]) (by simp [results, Tryz.results241, go_sem]) rfl ?_
          exact ⟨rfl, m + nq, by rw [← HEQ.out, sift_stop h1 HCH.out (by rw [← HG.out, ← HG.out]; exact HL2.out), HWN.out]; exact putRow_drewN _ _ _ _ _ _ _⟩
        · have hll := less_f (G (first + r)) (G (first + (2 * r + 1)))
          rw [hl2] at hll
          have HLL := Lib.hid hll; have HL2 := Lib.hid hl2
          clear hll hl2
          go_wp2
          go_quiet (first | (go_at_call 231; refine Calls.quiet_of_same (HLL.out _)))
          go_wp2
          go_region
          all_goals go_wp2
          refine ⟨⟨2 * r + 1, m + (nq + 1), swp dk (first + r) (first + (2 * r + 1)), by go_num, by omega, by rw [Go.Sort.size_swp]; exact hds, ?_, ?_⟩, by simp [intOf]; omega⟩
          · rw [HWN.out, HG.out, HG.out]
            exact swap_worldA encF w m (nq + 1) blk off dk (first + r) (first + (2 * r + 1)) (by omega) (by omega)
          · rw [← HEQ.out, sift_go h1 HCH.out (by rw [← HG.out, ← HG.out]; exact HL2.out)]
end Go.Proofs.YtpcfmkongpmmmaaGreatDoor

namespace Go.Proofs.YtpcfmkongpmmmaaGreatDoor
open Go Go.RowKit Go.Sort
set_option maxRecDepth 100000

theorem sift_g (blk off len cap : Nat) (d : Array Int) (hlen : d.size = len) (lo hi first : Nat) (w : World) (hH : Holds encF w blk off d) (hlo : lo ≤ hi) (hb : first + hi ≤ d.size) (hsz : d.size < 2305843009213693952) :
    Calls Tryz.prog 241 #[.slice (some ⟨blk, off, none⟩) len cap, .int .i64 lo, .int .i64 hi, .int .i64 first] w fun e w' =>
      e = .returned (.tuple #[]) ∧ ∃ n, w' = putRow encF (Go.Sort.ahead w n) blk off (siftDown ltF hi first lo d) := by
  subst hlen
  exact sift_f blk off cap lo hi first d w hH hlo hb hsz

set_option maxHeartbeats 3200000 in
set_option maxRecDepth 1000000 in
theorem heap_f (blk off len cap : Nat) (d : Array Int) (hlen : d.size = len) (a b : Nat) (w : World) (hH : Holds encF w blk off d) (hab : a ≤ b) (hb : b ≤ d.size) (hsz : d.size < 2305843009213693952) :
    Calls Tryz.prog 226 #[.slice (some ⟨blk, off, none⟩) len cap, .int .i64 a, .int .i64 b] w fun e w' => e = .returned (.tuple #[]) ∧ ∃ n, w' = putRow encF (Sort.ahead w n) blk off (heapSort ltF d a b) := by
  subst hlen
  have ecast : ((b - a : Nat) : Int) = (b : Int) - (a : Int) := by omega
  go_enter Tryz.func226, Tryz.ntmps226
  go_wp2
  go_loopg [9] ((b - a - 1) / 2 + 1) (fun k s9 wr => s9 = .int .i64 ((k : Int) - 1) ∧ k ≤ (b - a - 1) / 2 + 1 ∧ ∃ (dk : Array Int) (n : Nat), dk.size = d.size ∧ wr = putRow encF (Sort.ahead w n) blk off dk ∧
    heapBuild ltF (b - a) a k dk = heapBuild ltF (b - a) a ((b - a - 1) / 2 + 1) d)
  case atStart => exact ⟨by rw [half_start hab], Nat.le_refl _, d, 0, rfl, (putRow_self encF w blk off d hH).symm, rfl⟩
  case round =>
    obtain ⟨rfl, hkk, dk, n, hds, hwr, heq⟩ := hrel
    have hHk : Holds encF wr blk off dk := by rw [hwr]; exact holds_putRow encF _ blk off d dk (holds_ahead encF w n blk off d hH) hds
    have A : Aside (wr = putRow encF (Sort.ahead w n) blk off dk) := hwr
    clear hwr
    cases gk with
    | zero =>
      have hB : dk = heapBuild ltF (b - a) a ((b - a - 1) / 2 + 1) d := heq
      clear heq hHk hkk
      go_wp2
      go_loopg [10] (b - a) (fun k s10 wr2 => s10 = .int .i64 ((k : Int) - 1) ∧ k ≤ b - a ∧ ∃ (dj : Array Int) (n2 : Nat), dj.size = d.size ∧ wr2 = putRow encF (Sort.ahead w n2) blk off dj ∧ heapPop ltF a k dj = heapPop ltF a (b - a) dk)
      case atStart => exact ⟨by rw [ecast], Nat.le_refl _, dk, n, hds, A.out, rfl⟩
      case round =>
        obtain ⟨rfl, hkk, dj, n2, hdj, hwr2, heq2⟩ := hrel
        cases gk with
        | zero =>
          go_wp2
          go_end0
          refine ⟨rfl, n2, ?_⟩
          have e : dj = heapSort ltF d a b := by rw [heapSort, ← hB, ← heq2]; rfl
          rw [← e]
        | succ k =>
          have hHj : Holds encF wr blk off dj := by rw [hwr2]; exact holds_putRow encF _ blk off d dj (holds_ahead encF w n2 blk off d hH) hdj
          have hcw : ∀ t, t < d.size → wr.cell? ⟨blk, off + t, none⟩ = some (.float .f64 (fW dj[t]!)) := fun t ht => (hHj t (by omega)).1
          have hfw : ∀ t, t < d.size → wr.frozen? ⟨blk, off + t, none⟩ = false := fun t ht => (hHj t (by omega)).2
          have A2 : Aside (wr = putRow encF (Sort.ahead w n2) blk off dj) := hwr2
          clear hwr2 hHj
          rcases Nat.eq_zero_or_pos k with hk0 | hkp
          · subst hk0
            go_wp2_with fail
            go_region
            go_wp2_with fail
            rw [swap_world encF (i := a) (j := a) (by omega) (by omega) A2.out rfl rfl]
            refine (sift_g blk off d.size cap (swp dj a (a)) (by rw [size_swp]; exact hdj) 0 0 a _ (holds_putRow encF _ blk off d _ (holds_ahead encF w (n2 + 1) blk off d hH) (by rw [size_swp]; exact hdj)) (Nat.zero_le _) (by rw [size_swp]; omega) (by rw [size_swp]; omega)).mono ?_
            rintro e w1 ⟨rfl, m, hw1⟩
            go_wp2
            go_roundg 0
            case measure => omega
            case rel =>
              refine ⟨by simp, by omega, siftDown ltF 0 a 0 (swp dj a (a)), n2 + 1 + m, by rw [size_siftDown ltF _ _ _ _ _ (Nat.le_refl _), size_swp]; exact hdj, ?_, heq2⟩
              first
                | rw [hw1, putRow_ahead_putRow encF w (n2 + 1) m blk off _ _ (size_siftDown ltF _ _ _ _ _ (Nat.le_refl _))]
                | rw [putRow_ahead_putRow encF w (n2 + 1) m blk off _ _ (size_siftDown ltF _ _ _ _ _ (Nat.le_refl _))]
          · skip
            go_wp2_with fail
            go_region
            go_wp2_with fail
            rw [swap_world encF (i := a) (j := a + k) (by omega) (by omega) A2.out rfl rfl]
            refine (sift_g blk off d.size cap (swp dj a (a + k)) (by rw [size_swp]; exact hdj) 0 k a _ (holds_putRow encF _ blk off d _ (holds_ahead encF w (n2 + 1) blk off d hH) (by rw [size_swp]; exact hdj)) (Nat.zero_le _) (by rw [size_swp]; omega) (by rw [size_swp]; omega)).mono ?_
            rintro e w1 ⟨rfl, m, hw1⟩
            go_wp2
            go_roundg k
            case measure => omega
            case rel =>
              refine ⟨by simp, by omega, siftDown ltF k a 0 (swp dj a (a + k)), n2 + 1 + m, by rw [size_siftDown ltF _ _ _ _ _ (Nat.le_refl _), size_swp]; exact hdj, ?_, heq2⟩
              first
                | rw [hw1, putRow_ahead_putRow encF w (n2 + 1) m blk off _ _ (size_siftDown ltF _ _ _ _ _ (Nat.le_refl _))]
                | rw [putRow_ahead_putRow encF w (n2 + 1) m blk off _ _ (size_siftDown ltF _ _ _ _ _ (Nat.le_refl _))]
    | succ k =>
      have hcall := sift_g blk off d.size cap dk hds k (b - a) a wr hHk (by omega) (by omega) (by omega)
      rw [ecast] at hcall
      go_wp2_with (go_at_call 241; refine hcall.mono ?_; rintro e w1 ⟨rfl, m, hw1⟩)
      go_roundg k
      case measure => omega
      case rel =>
        refine ⟨by simp, by omega, siftDown ltF (b - a) a k dk, n + m, by rw [size_siftDown ltF _ _ _ _ _ (Nat.le_refl _)]; exact hds, ?_, heq⟩
        rw [A.out, putRow_ahead_putRow encF w n m blk off dk _ (size_siftDown ltF _ _ _ _ _ (Nat.le_refl _))]

end Go.Proofs.YtpcfmkongpmmmaaGreatDoor
