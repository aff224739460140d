/-
  The scaling constants out of the table; how many digits a number has.
-/
import Derived.Test.YtlbhebmjdaaglaaGreatDoorFt2
import Derived.Test.YtlbhebmjdaaglaaGreatDoorL
namespace Go.Proofs.YtlbhebmjdaaglaaGreatDoor
set_option linter.unusedSimpArgs false
set_option linter.unusedVariables false
open Go Go.RowKit
set_option maxRecDepth 100000

theorem blk_lt {w : World} {b : Nat} {o : Obj} (h : w.heap[b]? = some o) : b < w.heap.size := by
  apply Classical.byContradiction
  intro hn
  rw [Array.getElem?_eq_none (by omega)] at h
  cases h

theorem Keeps.rf (S : List Nat) (w : World) : Keeps S w w := ⟨rfl, rfl, rfl, Nat.le_refl _, fun _ _ _ => rfl⟩
theorem Keeps.from_ext {S : List Nat} {w w' : World} (h : Ext w w') : Keeps S w w' := ⟨h.os, h.tape, h.output, h.size, fun k hk _ => h.block k hk⟩
theorem Keeps.andThen {S : List Nat} {a b c : World} (h : Keeps S a b) (k : Keeps S b c) : Keeps S a c :=
  ⟨k.os.trans h.os, k.tape.trans h.tape, k.output.trans h.output, Nat.le_trans h.size k.size, fun q hq hs => (k.block q (Nat.lt_of_lt_of_le hq h.size) hs).trans (h.block q hq hs)⟩
theorem Keeps.store {S : Nat} {w w' : World} (h : Keeps [S] w w') (o : Nat) (v : Value) : Keeps [S] w (w'.setCell ⟨S, o, none⟩ v) :=
  ⟨h.os, h.tape, h.output, by simpa [World.setCell] using h.size, fun q hq hs => by
    rw [heap_setCell_ne (fun e => hs (by simp [e]))]
    exact h.block q hq hs⟩

/-- The table of the powers of ten. -/
structure TabAt (w : World) (T : Nat → Nat × Nat) : Prop where
  hi : ∀ i, i < 696 → w.cell? ⟨17, i * 2, none⟩ = some (.int .u64 (T i).1)
  lo : ∀ i, i < 696 → w.cell? ⟨17, i * 2 + 1, none⟩ = some (.int .u64 (T i).2)
  u64 : ∀ i, i < 696 → (T i).1 < 18446744073709551616 ∧ (T i).2 < 18446744073709551616

theorem TabAt.ext {w w' : World} {T : Nat → Nat × Nat} (h : TabAt w T) (hb : Ext w w') : TabAt w' T := ⟨fun i hi => hb.get (h.hi i hi), fun i hi => hb.get (h.lo i hi), h.u64⟩

/-- The constants, where they are laid. -/
def PreAt (w : World) (b hi lo s : Nat) : Prop := w.heap[b]? = some (.cells #[.int .u64 hi, .int .u64 lo, .int .i64 s] 206 (0, 0))

set_option maxHeartbeats 1600000 in
theorem prescale_ok (b : Nat) (e p lp : Int) (k s : Nat) (T : Nat → Nat × Nat) (w : World) (ht : TabAt w T) (hb : w.heap[b]? = some (.cells #[.int .u64 0, .int .u64 0, .int .i64 0] 206 (0, 0)))
    (hne : b ≠ 17) (hk : p + 348 = k) (hk2 : k < 696) (hs : -(e + lp + 3) = s) (h1 : -100000 ≤ e) (h2 : e ≤ 100000) (h3 : -100000 ≤ lp) (h4 : lp ≤ 100000) :
    Calls Tryz.prog 148 #[.pointer (some ⟨b, 0, none⟩), .int .i64 e, .int .i64 p, .int .i64 lp] w fun e w' => e = .returned (.tuple #[]) ∧ PreAt w' b (T k).1 (T k).2 s ∧ Keeps [b] w w' := by
  have c0 := ht.hi k hk2
  have c1 := ht.lo k hk2
  have hl : b < w.heap.size := blk_lt hb
  have f0 : ∀ o, w.frozen? ⟨b, o, none⟩ = false := fun o => by simp [World.frozen?, hb]
  have q0 : w.cell? ⟨b, 0, none⟩ = some (.int .u64 0) := by simp [World.cell?, hb]
  have q1 : w.cell? ⟨b, 1, none⟩ = some (.int .u64 0) := by simp [World.cell?, hb]
  have q2 : w.cell? ⟨b, 2, none⟩ = some (.int .i64 0) := by simp [World.cell?, hb]
  have hp : p = (k : Int) - 348 := by omega
  subst hp
  have hne2 : 17 ≠ b := fun h => hne h.symm
  clear ht
  go_enter Tryz.func148, Tryz.ntmps148
  go_wp2
  go_end0
  refine ⟨rfl, ?_, (((Keeps.rf [b] w).store 0 _).store 1 _).store 2 _⟩
  unfold PreAt
  rw [heap_setCell_at (heap_setCell_at (heap_setCell_at hb))]
  rfl

/-- The powers of ten in a row. -/
def PowAt (w : World) : Prop := ∀ i, i < 20 → w.cell? ⟨13, i, none⟩ = some (.int .u64 ((10 ^ i : Nat) : Int))

theorem PowAt.ext {w w' : World} (h : PowAt w) (hb : Ext w w') : PowAt w' := fun i hi => hb.get (h i hi)

theorem b2i_n (p : Prop) [Decidable p] (a : Nat) (h : (if p then 1 else 0) = a) (w : World) : Calls Tryz.prog 156 #[.bool (decide p)] w fun e w' => e = .returned (.int .i64 (a : Int)) ∧ w' = w := by
  have h2 := b2i_ok (decide p) w
  subst h
  by_cases hp : p
  · rw [if_pos hp]; simpa [hp] using h2
  · rw [if_neg hp]; simpa [hp] using h2

set_option maxHeartbeats 1600000 in
theorem numDigits_ok (d : Nat) (w : World) (hd : d < 18446744073709551616) (hp : PowAt w) : Calls Tryz.prog 121 #[.int .u64 d] w fun e w' => e = .returned (.int .i64 (Ff.ndig d)) ∧ w' = w := by
  have hL : Lib.bitLen d ≤ 64 := Lib.bitLen_le d 64 (Nat.le_refl _) hd
  have h1 := bits_Len64 (d : Int) w (by omega) (by omega)
  rw [Int.toNat_natCast] at h1
  unfold Ff.ndig
  generalize Lib.bitLen d = L at h1 hL ⊢
  obtain ⟨n, hn⟩ : ∃ n, L * 78913 / 262144 = n := ⟨_, rfl⟩
  have h2 := l10_ok (L : Int) w (by omega) (by omega)
  rw [show Ff.l10 (L : Int) = (n : Int) by unfold Ff.l10; omega] at h2
  rw [hn]
  obtain ⟨a, ha⟩ : ∃ a, (if 10 ^ n ≤ d then 1 else 0) = a := ⟨_, rfl⟩
  rw [ha]
  have hn19 : n < 20 := by omega
  have ha1 : a ≤ 1 := by rw [← ha]; split <;> omega
  have hc := hp n hn19
  obtain ⟨P, hP⟩ : ∃ P, 10 ^ n = P := ⟨_, rfl⟩
  rw [hP] at hc ha
  have h3 := b2i_n (P ≤ d) a ha w
  have H1 := Lib.hid h1; have H2 := Lib.hid h2; have H3 := Lib.hid h3
  clear h1 h2 h3 hp hn ha hP
  go_enter Tryz.func121, Tryz.ntmps121
  go_wp2_with fail
  refine H1.out.mono ?_
  rintro e w1 ⟨rfl, rfl⟩
  go_wp2_with fail
  refine H2.out.mono ?_
  rintro e w2 ⟨rfl, rfl⟩
  go_wp2_with fail
  refine H3.out.mono ?_
  rintro e w3 ⟨rfl, rfl⟩
  go_wp2
  go_ret
  exact ⟨rfl, rfl⟩
end Go.Proofs.YtlbhebmjdaaglaaGreatDoor
