/-
  FormatFloat of a double, shortest form, format 'g': a text of plain bytes that begins with a sign or a digit.
-/
import Derived.Test.YtlbhebmjdaaglaaGreatDoorFt8
import Derived.Test.YtlbhebmjdaaglaaGreatDoorFl
import Derived.Laws.BytesArg
import Derived.OwnWalk
import Derived.Deep.AppendLies
namespace Go.Proofs.YtlbhebmjdaaglaaGreatDoor
set_option linter.unusedSimpArgs false
set_option linter.unusedVariables false
open Go Go.RowKit Ieee
set_option maxRecDepth 100000

set_option maxHeartbeats 6400000 in
theorem fmt0_ok (v : Value) (B : Nat) (W : World) (hF : FB W v.ownBlock B 0 0 W v) (hB : B ≤ W.heap.size) :
    Calls Tryz.prog 117 #[v, .bool false, .slice none 0 0, .int .i64 0, .int .i64 0, .int .i64 (-1), .int .u8 103, .bool true] W fun e w' =>
      ∃ v', e = .returned v' ∧ FB W v.ownBlock B 1 1000 w' v' := by
  obtain ⟨V0, hV0⟩ : ∃ V0, v.ownBlock = V0 := ⟨_, rfl⟩
  rw [hV0] at hF ⊢
  have HF := Lib.hid hF
  clear hF hV0
  go_enter Tryz.func117, Tryz.ntmps117
  go_wp2_with (at_builtin; (refine fb_append rfl _ _ rfl W V0 B 0 0 hB _ rfl (HF.out.alloc _) ⟨W.heap.size, 0, none⟩ 1 1 [48] rfl rfl (new1 _ _ rfl 48 _) (good1 (by decide) (by decide)) (Or.inr (firstD (by decide) (by decide))) (by omega) ?_); intro v' w' hF')
  go_ret
  exact ⟨_, rfl, hF'.wide (by omega) (by omega)⟩

set_option maxHeartbeats 6400000 in
theorem ftoa0_ok (v : Value) (B : Nat) (w : World) (hF : FB w v.ownBlock B 0 0 w v) (hB : B ≤ w.heap.size) :
    Calls Tryz.prog 104 #[v, .float .f64 0, .int .u8 103, .int .i64 (-1)] w fun e w' => ∃ v', e = .returned v' ∧ FB w v.ownBlock B 1 1000 w' v' := by
  have HFL := Lib.hid (fun w' => bits_val 0 w')
  have HF := Lib.hid hF
  have HFM := Lib.hid (fun (w0 : World) (h0 : FB w v.ownBlock B 0 0 w0 v) =>
    show Calls Tryz.prog 117 #[v, .bool false, .slice none 0 0, .int .i64 0, .int .i64 0, .int .i64 (-1), .int .u8 103, .bool true] w0 fun e w' =>
      ∃ v', e = .returned v' ∧ FB w v.ownBlock B 1 1000 w' v' by
      refine (fmt0_ok v B w0 h0.self (Nat.le_trans hB h0.size)).mono ?_
      rintro e w5 ⟨v5, rfl, h5⟩
      exact ⟨v5, rfl, h0.rebase rfl h5⟩)
  have hcf := HFL.out
  clear hF
  go_enter Tryz.func104, Tryz.ntmps104
  go_wp2_with fail
  go_quiet (fail)
  have HF0 := Lib.hid (HF.out.drewN nq)
  generalize w.drewN nq = w0 at HF0 ⊢
  go_wp2_with fail
  refine (HFM.out _ HF0.out).mono ?_
  rintro e w5 ⟨v5, rfl, h5⟩
  go_wp2_with fail
  go_ret
  exact ⟨_, rfl, h5⟩

/-- A word that is no number out of the common: 0, or a normal double. -/
def WordOk (x : Nat) : Prop := x = 0 ∨ ∃ (neg : Bool) (E M : Nat), x = (if neg then 9223372036854775808 else 0) + E * 4503599627370496 + M ∧ 2 ≤ E ∧ E ≤ 2046 ∧ M < 4503599627370496

theorem wordOk_fx {z : Int} {p : Int} (h1 : -2 ^ 53 < z) (h2 : z < 2 ^ 53) (hp : -100 ≤ p) (hp2 : p ≤ 100) : WordOk (Fl.fx p z) := by
  unfold Fl.fx
  by_cases h0 : z = 0
  · subst h0
    left
    unfold Format.nearest
    rw [if_pos (by decide)]
    decide
  · right
    have hm : 0 < z.natAbs := by omega
    have hm2 : z.natAbs < 2 ^ 53 := by omega
    rw [Fl.nearest_norm hm hm2 (by omega) (by omega)]
    have hb := Fl.norm_bounds hm hm2
    have hl : z.natAbs.log2 < 53 := (Nat.log2_lt (by omega)).2 hm2
    generalize z.natAbs * 2 ^ (52 - z.natAbs.log2) = m at hb
    generalize z.natAbs.log2 = L at hl
    refine ⟨decide (z < 0), (p - (52 - L : Nat) + 1075).toNat, m - 4503599627370496, ?_, by omega, by omega, by omega⟩
    unfold Fl.bits Format.word
    have hs : double.signWeight = 9223372036854775808 := by decide
    rw [hs]
    by_cases hz : z < 0
    · simp [hz]; omega
    · simp [hz]; omega

theorem ftoaW_ok (v : Value) (B x : Nat) (T : Nat → Nat × Nat) (w : World) (hF : FB w v.ownBlock B 0 0 w v) (hv : v.ownBlock ≠ some w.heap.size) (hB : B ≤ w.heap.size) (ht : TabAt w T) (hp : PowAt w)
    (hg1 : 17 < w.heap.size) (hx : WordOk x) :
    Calls Tryz.prog 104 #[v, .float .f64 x, .int .u8 103, .int .i64 (-1)] w fun e w' => ∃ v', e = .returned v' ∧ FB w v.ownBlock B 1 1000 w' v' := by
  rcases hx with rfl | ⟨neg, E, M, h1, h2, h3, h4⟩
  · exact ftoa0_ok v B w hF hB
  · exact ftoa_ok v B x E M neg T w hF hv hB ht hp hg1 h1 h2 h3 h4

/-- A number's text. -/
def NumText (t : ByteArray) : Prop := ∃ xs : List Int, t = strOfNums xs ∧ 1 ≤ xs.length ∧ xs.length ≤ 1000 ∧ (∀ x ∈ xs, 0 ≤ x ∧ x < 128) ∧ (∀ x, xs.head? = some x → FirstOk x)

/-- What FormatFloat reads of the world. -/
structure TabsAt (w : World) : Prop where
  tab : ∃ T, TabAt w T
  pow : PowAt w
  lt : 17 < w.heap.size

theorem TabsAt.ext {w w' : World} (h : TabsAt w) (hb : Ext w w') : TabsAt w' :=
  ⟨by obtain ⟨T, hT⟩ := h.tab; exact ⟨T, hT.ext hb⟩, fun i hi => hb.get (h.pow i hi), by have := h.lt; have := hb.size; omega⟩

set_option maxHeartbeats 6400000 in
theorem formatFloat_ok (x : Nat) (w : World) (ht : TabsAt w) (hx : WordOk x) :
    Calls Tryz.prog 86 #[.float .f64 x, .int .u8 103, .int .i64 (-1), .int .i64 64] w fun e w' => ∃ t, e = .returned (.string t) ∧ NumText t ∧ Ext w w' := by
  obtain ⟨i0, hi, hz0, hz1, hz2⟩ := info_parts infoByte
  have HT := Lib.hid ht; have HX := Lib.hid hx
  clear ht hx
  go_enter Tryz.func86, Tryz.ntmps86
  go_wp2_with (at_make; refine wpList_make_own _ rfl _ _ 67 rfl w.heap.size 5 i0 (.int .u8 0) 1 Tryz.underlying67 hi hz0 hz1 _ _ _ 24 rfl rfl (by first | rfl | assumption) (by rw [hz2]; omega) (by unfold maxLen; omega) (Nat.le_refl _) ?_; intro w1 hown hg)
  have hown1 := hown
  obtain ⟨hg0, hg2⟩ := World.ownsRow.lt hown w.heap.size rfl
  have hF1 : FB w1 (some w.heap.size) w.heap.size 0 0 w1 (.slice (some ⟨w.heap.size, 0, none⟩) 0 24) :=
    ⟨⟨[], hown, (by intro y hy; cases hy), (by intro y hy; cases hy), Nat.le_refl _, Nat.le_refl _⟩, Or.inl rfl, rfl, rfl, rfl, Nat.le_refl _, fun _ _ _ => rfl⟩
  have hb1 : Ext w w1 := (Ext.rf w).grown hg (Nat.le_refl _) (by intro k hk; cases hk)
  have HA := Lib.hid (fun T (hT : TabAt w1 T) => ftoaW_ok (.slice (some ⟨w.heap.size, 0, none⟩) 0 24) w.heap.size x T w1 hF1 (by intro e; have := Option.some.inj e; have : w.heap.size = w1.heap.size := this; omega) (by omega) hT (HT.out.ext hb1).pow (HT.out.ext hb1).lt HX.out)
  obtain ⟨T, hT⟩ := (HT.out.ext hb1).tab
  rw [show max (3 : Int) 24 = 24 by decide]
  refine (HA.out T hT).mono ?_
  rintro e w2 ⟨v2, rfl, h2⟩
  obtain ⟨⟨xs, q1, q2, q3, q4, q5⟩, r1, r2, r3, r4, r5, r6⟩ := h2
  obtain ⟨gb, cap, rfl, hgb, hgl⟩ := World.ownsRow.form q1 (by omega)
  have hcells : ∀ i, i < xs.length → w2.cell? ⟨gb, 0 + i, none⟩ = some (.int .u8 (xs.getD i 0)) := fun i hi => by
    have := q1.cells (g := gb) (by simp [Value.ownBlock]) i (.int .u8 (xs.getD i 0)) (by rw [← (show xs.map (Value.int .u8) = xs.flatMap byteL from List.map_eq_flatMap)]; simp only [List.getElem?_map, List.getElem?_eq_getElem hi, List.getD, Option.map_some, Option.getD_some])
    by_cases hi0 : i = 0 <;> simpa [Addr.add, hi0] using this
  have hcv := run_convert_bytes_arg w2 67 5 Tryz.underlying67 Tryz.underlying5 gb 0 _ cap xs rfl hcells 9 Tryz.underlying9
  have hb2 : Ext w w2 := by
    refine ⟨r2.trans hb1.os, r3.trans hb1.tape, r4.trans hb1.output, Nat.le_trans hb1.size r5, fun k hk => ?_⟩
    rw [r6 k (by omega) (by intro e; have := Option.some.inj e; simp at this; omega)]
    exact hb1.block k hk
  have hfin : ∃ t, strOfNums xs = t ∧ NumText t := ⟨_, rfl, xs, rfl, by omega, q5, q2, q3⟩
  obtain ⟨t, ht, hnt⟩ := hfin
  rw [ht] at hcv
  clear hcells hown hown1 hF1
  go_wp2_with fail
  go_ret
  exact ⟨t, rfl, hnt, hb2⟩

theorem sFormatFloat_ok (x : Nat) (w : World) (ht : TabsAt w) (hx : WordOk x) :
    Calls Tryz.prog 75 #[.float .f64 x, .int .u8 103, .int .i64 (-1), .int .i64 64] w fun e w' => ∃ t, e = .returned (.string t) ∧ NumText t ∧ Ext w w' := by
  have H := Lib.hid (formatFloat_ok x w ht hx)
  clear ht hx
  go_enter Tryz.func75, Tryz.ntmps75
  go_wp2_with fail
  refine H.out.mono ?_
  rintro e w1 ⟨t, rfl, h1, h2⟩
  go_wp2
  go_ret
  exact ⟨t, rfl, h1, h2⟩
end Go.Proofs.YtlbhebmjdaaglaaGreatDoor
