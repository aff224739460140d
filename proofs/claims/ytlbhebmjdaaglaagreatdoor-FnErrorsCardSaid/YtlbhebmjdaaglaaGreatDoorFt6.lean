/-
  A buffer of bytes that a number's text grows in; the form with an exponent.
-/
import Derived.Test.YtlbhebmjdaaglaaGreatDoorFt5
import Derived.Test.YtlbhebmjdaaglaaGreatDoorG
import Derived.Maps.AppendAt
import Derived.Deep.Cut
import Derived.Deep.LoopGhost
namespace Go.Proofs.YtlbhebmjdaaglaaGreatDoor
set_option linter.unusedSimpArgs false
set_option linter.unusedVariables false
open Go Go.RowKit
set_option maxRecDepth 100000

theorem infoByte : (Tryz.prog.info? 5).map (fun i => (i.zero, i.size, i.bytes)) = some (some (.int .u8 0), 1, 1) := by kernel_rfl

abbrev byteL (x : Int) : List Value := [.int .u8 x]

/-- What may stand first in a number's text. -/
def FirstOk (x : Int) : Prop := x = 45 ∨ (48 ≤ x ∧ x ≤ 57)

/-- The buffer on its way: at least l and at most n bytes. -/
structure FB (W : World) (V0 : Option Nat) (B l n : Nat) (w : World) (v : Value) : Prop where
  own : ∃ xs : List Int, w.ownsRow B 5 1 v xs.length (xs.flatMap byteL) ∧ (∀ x ∈ xs, 0 ≤ x ∧ x < 128) ∧ (∀ x, xs.head? = some x → FirstOk x) ∧ l ≤ xs.length ∧ xs.length ≤ n
  lies : v.ownBlock = V0 ∨ ∃ k, v.ownBlock = some k ∧ W.heap.size ≤ k
  os : w.os = W.os
  tape : w.tape = W.tape
  output : w.output = W.output
  size : W.heap.size ≤ w.heap.size
  block : ∀ k, k < W.heap.size → some k ≠ V0 → w.heap[k]? = W.heap[k]?

theorem FB.alloc {W : World} {V0 : Option Nat} {B l n : Nat} {w : World} {v : Value} (h : FB W V0 B l n w v) (o : Obj) : FB W V0 B l n (w.alloc o) v := by
  obtain ⟨⟨xs, q1, q2⟩, h2, h3, h4, h5, h6, h7⟩ := h
  have hx := (Ext.rf w).al o
  exact ⟨⟨xs, World.ownsRow.alloc q1 o, q2⟩, h2, hx.os.trans h3, hx.tape.trans h4, hx.output.trans h5, Nat.le_trans h6 hx.size, fun k hk hne => (hx.block k (Nat.lt_of_lt_of_le hk h6)).trans (h7 k hk hne)⟩

theorem FB.wide {W : World} {V0 : Option Nat} {B l n l' n' : Nat} {w : World} {v : Value} (h : FB W V0 B l n w v) (h1 : l' ≤ l) (h2 : n ≤ n') : FB W V0 B l' n' w v := by
  obtain ⟨⟨xs, q1, q2, q3, q4, q5⟩, r1, r2, r3, r4, r5, r6⟩ := h
  exact ⟨⟨xs, q1, q2, q3, by omega, by omega⟩, r1, r2, r3, r4, r5, r6⟩

theorem FB.cell {W : World} {V0 : Option Nat} {B l n : Nat} {w : World} {v : Value} (h : FB W V0 B l n w v) {R : Nat} (hR : R < W.heap.size) (hne : some R ≠ V0) (o : Nat) : w.cell? ⟨R, o, none⟩ = W.cell? ⟨R, o, none⟩ := by
  simp only [World.cell?]
  rw [h.block R hR hne]

theorem FB.row {W : World} {V0 : Option Nat} {B l n : Nat} {w : World} {v : Value} (h : FB W V0 B l n w v) {R m : Nat} {f : Nat → Nat} (hb : BRow W R m f) (hR : R < W.heap.size) (hne : some R ≠ V0) : BRow w R m f :=
  fun t ht => by rw [h.cell hR hne]; exact hb t ht

theorem FB.drewN {W : World} {V0 : Option Nat} {B l n : Nat} {w : World} {v : Value} (h : FB W V0 B l n w v) (q : Nat) : FB W V0 B l n (w.drewN q) v :=
  ⟨h.own, h.lies, h.os, h.tape, h.output, h.size, h.block⟩

theorem FB.self {W : World} {V0 : Option Nat} {B l n : Nat} {w : World} {v : Value} (h : FB W V0 B l n w v) : FB w v.ownBlock B l n w v :=
  ⟨h.own, Or.inl rfl, rfl, rfl, rfl, Nat.le_refl _, fun _ _ _ => rfl⟩

theorem FB.rebase {w W : World} {V0 : Option Nat} {B l n l' n' : Nat} {w' : World} {v v' : Value} (h : FB w V0 B l n W v) (hv : v.ownBlock = V0) (k : FB W V0 B l' n' w' v') : FB w V0 B l' n' w' v' := by
  refine ⟨k.own, ?_, k.os.trans h.os, k.tape.trans h.tape, k.output.trans h.output, Nat.le_trans h.size k.size, fun q hq hne => (k.block q (Nat.lt_of_lt_of_le hq h.size) hne).trans (h.block q hq hne)⟩
  rcases k.lies with q | ⟨j, q, hj⟩
  · exact Or.inl q
  · exact Or.inr ⟨j, q, Nat.le_trans h.size hj⟩

theorem FB.keeps {W : World} {V0 : Option Nat} {B l n R : Nat} {w w' : World} {v : Value} (h : FB W V0 B l n w v) (hk : Keeps [R] w w') (hR : W.heap.size ≤ R) (hv : v.ownBlock ≠ some R) : FB W V0 B l n w' v := by
  obtain ⟨⟨xs, q1, q2⟩, h2, h3, h4, h5, h6, h7⟩ := h
  refine ⟨⟨xs, ?_, q2⟩, h2, hk.os.trans h3, hk.tape.trans h4, hk.output.trans h5, Nat.le_trans h6 hk.size, fun k hk' hne => ?_⟩
  · obtain ⟨hl, q⟩ := q1
    refine ⟨hl, ?_⟩
    rcases q with q | ⟨g, cap, cur, hvv, hg, hh, r⟩
    · exact Or.inl q
    · refine Or.inr ⟨g, cap, cur, hvv, hg, ?_, r⟩
      rw [hk.block g (blk_lt hh) ?_]
      · exact hh
      · intro hm
        have : g = R := by simpa using hm
        rw [hvv, this] at hv
        exact hv rfl
  · rw [hk.block k (Nat.lt_of_lt_of_le hk' h6) (by intro hm; have : k = R := by simpa using hm
                                                   omega)]
    exact h7 k hk' hne

theorem fb_append {ops : Array Oper} {rest : List Oper} {o : Oper} {a : Act} {Q : Exit → Act → World → Prop} (hgd : o.guard = none) (s x : Operand) {w : World}
    (ho : o.op = .call { callee := .builtin .append, args := #[s, x], argTypes := #[67, 67] })
    (W : World) (V0 : Option Nat) (B l n : Nat) (hB : B ≤ W.heap.size) (v : Value) (hs : a.eval s = v) (hF : FB W V0 B l n w v) (ad : Addr) (m c : Nat) (ys : List Int) (hx : a.eval x = .slice (some ad) m c) (hm : ys.length = m)
    (hy : ∀ (j : Nat) u, (ys.flatMap byteL)[j]? = some u → w.cell? (ad.add j) = some u) (hgood : ∀ y ∈ ys, 0 ≤ y ∧ y < 128) (hfirst : 1 ≤ l ∨ ∀ y, ys.head? = some y → FirstOk y) (hn : n + m ≤ 1000000)
    (h : ∀ v' w', FB W V0 B (l + m) (n + m) w' v' → wpList Tryz.prog ops Q rest (a.put o.dst v') w') : wpList Tryz.prog ops Q (o :: rest) a w := by
  obtain ⟨i0, hi, hz0, hz1, hz2⟩ := info_parts infoByte
  obtain ⟨⟨xs, q1, q2, q3, q4, q5⟩, h2, h3, h4, h5, h6, h7⟩ := hF
  have hl2 : (ys.flatMap byteL).length = m * 1 := by
    have h := flat_len (f := byteL) (fun _ => rfl) ys
    rw [h, hm]
  refine wpList_append_own_at w hgd s x 67 ho B 5 i0 _ 1 1 Tryz.underlying67 hi hz0 hz1 hz2 rfl (by decide) v xs.length (xs.flatMap byteL) hs q1 ad m c (ys.flatMap byteL) hx hl2 hy ?_ (by unfold maxLen; omega) (by omega) (Nat.le_trans hB h6) ?_
  · intro u hu
    obtain ⟨y, _, hyu⟩ := List.mem_flatMap.1 hu
    have e : u = .int .u8 y := by simpa using hyu
    subst e; rfl
  · intro v' w' r1 r2 _ r4
    refine h v' w' ⟨⟨xs ++ ys, ?_, ?_, ?_, by rw [List.length_append]; omega, by rw [List.length_append]; omega⟩, ?_, r2.os.trans h3, r2.tape.trans h4, r2.output.trans h5, Nat.le_trans h6 r2.size, fun k hk hne => ?_⟩
    · rw [List.length_append, hm, List.flatMap_append]; exact r1
    · intro y hy
      rcases List.mem_append.1 hy with hy | hy
      · exact q2 y hy
      · exact hgood y hy
    · intro y hy
      cases xs with
      | nil =>
        rw [List.nil_append] at hy
        rcases hfirst with hl | hfirst
        · simp at q4; omega
        · exact hfirst y hy
      | cons z zs =>
        rw [List.cons_append, List.head?_cons] at hy
        exact q3 y (by rw [List.head?_cons]; exact hy)
    · rcases r4 with r4 | r4
      · rw [r4]; exact h2
      · exact Or.inr ⟨_, r4, h6⟩
    · rw [r2.block k (Nat.lt_of_lt_of_le hk h6) ?_]
      · exact h7 k hk hne
      · rcases h2 with h2 | ⟨q, h2, hq⟩
        · rw [h2]; exact hne
        · rw [h2]; intro e; have := Option.some.inj e; omega

/-- The bytes of a block just laid. -/
theorem new1 (w : World) (n : Nat) (hn : n = w.heap.size) (c : Int) (t : TypeId) : ∀ (j : Nat) u, ([c].flatMap byteL)[j]? = some u → (w.alloc (.cells #[.int .u8 c] t)).cell? ((⟨n, 0, none⟩ : Addr).add j) = some u := by
  subst hn
  intro j u hu
  match j, hu with
  | 0, hu => simp at hu; subst hu; simp [Addr.add]

theorem new2 (w : World) (n : Nat) (hn : n = w.heap.size) (c d : Int) (t : TypeId) : ∀ (j : Nat) u, ([c, d].flatMap byteL)[j]? = some u → (w.alloc (.cells #[.int .u8 c, .int .u8 d] t)).cell? ((⟨n, 0, none⟩ : Addr).add j) = some u := by
  subst hn
  intro j u hu
  match j, hu with
  | 0, hu => simp at hu; subst hu; simp [Addr.add]
  | 1, hu => simp at hu; subst hu; simp [Addr.add]

theorem new3 (w : World) (n : Nat) (hn : n = w.heap.size) (c d e : Int) (t : TypeId) : ∀ (j : Nat) u, ([c, d, e].flatMap byteL)[j]? = some u → (w.alloc (.cells #[.int .u8 c, .int .u8 d, .int .u8 e] t)).cell? ((⟨n, 0, none⟩ : Addr).add j) = some u := by
  subst hn
  intro j u hu
  match j, hu with
  | 0, hu => simp at hu; subst hu; simp [Addr.add]
  | 1, hu => simp at hu; subst hu; simp [Addr.add]
  | 2, hu => simp at hu; subst hu; simp [Addr.add]

theorem first45 : ∀ y : Int, ([45] : List Int).head? = some y → FirstOk y := by
  intro y h
  rw [List.head?_cons] at h
  exact Or.inl (Option.some.inj h).symm

theorem good1 {c : Int} (h0 : 0 ≤ c) (h : c < 128) : ∀ y ∈ ([c] : List Int), 0 ≤ y ∧ y < 128 := by
  intro y hy
  rw [List.mem_singleton] at hy
  subst hy
  exact ⟨h0, h⟩

/-- Bytes out of the middle of the row. -/
def midL (f : Nat → Nat) (o m : Nat) : List Int := (List.range m).map fun j => (f (o + j) : Int)

theorem midL_len (f : Nat → Nat) (o m : Nat) : (midL f o m).length = m := by unfold midL; rw [List.length_map, List.length_range]

theorem midL_get {f : Nat → Nat} {o m j : Nat} {u : Value} (h : ((midL f o m).flatMap byteL)[j]? = some u) : j < m ∧ u = .int .u8 (f (o + j)) := by
  have e : (midL f o m).flatMap byteL = (List.range m).map fun j => Value.int .u8 (f (o + j) : Int) := by
    unfold midL
    rw [List.flatMap_map]
    induction (List.range m) with
    | nil => rfl
    | cons a l ih => rw [List.flatMap_cons, List.map_cons, ih]; rfl
  rw [e, List.getElem?_map] at h
  obtain ⟨k, hk, rfl⟩ := Option.map_eq_some_iff.1 h
  have hj : j < m := by
    apply Classical.byContradiction
    intro hn
    rw [List.getElem?_eq_none (by simp; omega)] at hk
    cases hk
  rw [List.getElem?_range hj] at hk
  have := Option.some.inj hk
  subst this
  exact ⟨hj, rfl⟩

theorem midL_at {w : World} {R nd o m : Nat} {f : Nat → Nat} (h : BRow w R nd f) (ho : o + m ≤ nd) : ∀ (j : Nat) u, ((midL f o m).flatMap byteL)[j]? = some u → w.cell? ((⟨R, o, none⟩ : Addr).add j) = some u := by
  intro j u hu
  obtain ⟨hj, rfl⟩ := midL_get hu
  have h2 := h (o + j) (by omega)
  have e : (⟨R, o, none⟩ : Addr).add j = ⟨R, o + j, none⟩ := by unfold Addr.add; by_cases h0 : j = 0 <;> simp [h0]
  rw [e]; exact h2

theorem midL_good {f : Nat → Nat} {nd o m : Nat} (hf : ∀ t, t < nd → 48 ≤ f t ∧ f t ≤ 57) (ho : o + m ≤ nd) : ∀ y ∈ midL f o m, 0 ≤ y ∧ y < 128 := by
  intro y hy
  unfold midL at hy
  obtain ⟨j, hj, rfl⟩ := List.mem_map.1 hy
  have := hf (o + j) (by have := List.mem_range.1 hj; omega)
  omega

set_option maxHeartbeats 12800000 in
/-- The form with an exponent. -/
theorem fmtE_ok (neg : Bool) (v : Value) (R nd B : Nat) (f : Nat → Nat) (dp : Int) (W : World) (hF : FB W v.ownBlock B 0 0 W v) (hB : B ≤ W.heap.size) (hr : BRow W R nd f) (hR : R < W.heap.size) (hne : some R ≠ v.ownBlock)
    (hf : ∀ t, t < nd → 48 ≤ f t ∧ f t ≤ 57) (hnd : nd ≤ 20) (hd1 : -1000 ≤ dp) (hd2 : dp ≤ 1000) (hE : dp - 1 < -4 ∨ 6 ≤ dp - 1) :
    Calls Tryz.prog 117 #[v, .bool neg, .slice (some ⟨R, 0, none⟩) 32 32, .int .i64 dp, .int .i64 nd, .int .i64 nd, .int .u8 103, .bool true] W fun e w' =>
      ∃ v', e = .returned v' ∧ FB W v.ownBlock B 1 1000 w' v' := by
  obtain ⟨V0, hV0⟩ : ∃ V0, v.ownBlock = V0 := ⟨_, rfl⟩
  rw [hV0] at hF hne ⊢
  have HF := Lib.hid hF; have HR := Lib.hid hr; have HFF := Lib.hid hf; have HNE := Lib.hid hne
  clear hF hr hf hne hV0
  have hc1 : ¬ ((nd : Int) > nd) := by omega
  go_enter Tryz.func117, Tryz.ntmps117
  go_upto_region 8 with fail
  go_cut [56] from 272 (fun s56 wx => s56 = .bool true ∧ wx = W)
  case first =>
    rcases hE with hE | hE
    · go_wp2_with fail
      go_meet
      exact ⟨rfl, rfl⟩
    · have hE2 : ¬ (dp - 1 < -4) := by omega
      go_wp2_with fail
      go_meet
      exact ⟨rfl, rfl⟩
  case rest =>
  obtain ⟨rfl, rfl⟩ := hcut
  rename World => W
  go_upto_if 78 with fail
  go_cut [0] from 272 (fun s0 wc => FB W V0 B 0 1 wc s0)
  case first =>
    cases neg
    · go_wp2_with fail
      go_meet
      exact HF.out.wide (by omega) (by omega)
    · go_wp2_with (at_builtin; (refine fb_append rfl _ _ rfl W V0 B 0 0 hB _ rfl (HF.out.alloc _) ⟨W.heap.size, 0, none⟩ 1 1 [45] rfl rfl (new1 _ _ rfl 45 _) (good1 (by decide) (by decide)) (Or.inr first45) (by omega) ?_); intro v' w' hF')
      go_meet
      exact hF'.wide (by omega) (by omega)
  case rest =>
    have HC1 := Lib.hid hcut
    have hsz := hcut.size
    clear hcut
    go_upto_if 83 with fail
    go_cut [19, 83] from 272 (fun s19 _ wx => ∃ c : Nat, s19 = .int .u8 c ∧ 48 ≤ c ∧ c ≤ 57 ∧ wx = wc)
    case first =>
      by_cases h0 : nd = 0
      · have hb : ((nd : Int) != 0) = false := by simp [h0]
        clear h0
        go_wp2_with fail
        go_meet
        exact ⟨48, rfl, by omega, by omega, rfl⟩
      · have hc0 := (HC1.out.row HR.out hR HNE.out) 0 (by omega)
        have hq := HFF.out 0 (by omega)
        have hRw : R < wc.heap.size := by omega
        have hb : ((nd : Int) != 0) = true := by rw [bne_iff_ne]; omega
        go_wp2_with fail
        go_meet
        exact ⟨f 0, rfl, hq.1, hq.2, rfl⟩
    case rest =>
      rename World => wd
      obtain ⟨c, rfl, hc1, hc2, rfl⟩ := hcut
      go_upto_if 92 with (at_builtin; (refine fb_append rfl _ _ rfl W V0 B 0 1 hB _ rfl (HC1.out.alloc _) ⟨wd.heap.size, 0, none⟩ 1 1 [(c : Int)] rfl rfl (new1 _ _ rfl _ _) (good1 (by omega) (by omega)) (Or.inr (by intro y hy; rw [List.head?_cons] at hy; have := Option.some.inj hy; exact Or.inr ⟨by omega, by omega⟩)) (by omega) ?_); intro v2 w2 hF2)
      have HC2 := Lib.hid hF2
      have hsz2 := hF2.size
      clear hF2
      go_cut [0, 92] from 272 (fun s0 _ wx => FB W V0 B 1 40 wx s0)
      case first =>
        by_cases h2 : 2 ≤ nd
        · have hb : ¬ ((nd : Int) - 1 ≤ 0) := by omega
          go_wp2_with (at_builtin; first
            | ((refine fb_append rfl _ _ rfl W V0 B 1 2 hB _ rfl (HC2.out.alloc _) ⟨w2.heap.size, 0, none⟩ 1 1 [46] rfl rfl (new1 _ _ rfl _ _) (good1 (by decide) (by decide)) (Or.inl (by decide)) (by omega) ?_); intro v3 w3 hF3)
            | ((refine fb_append rfl _ _ rfl W V0 B 2 3 hB _ rfl hF3 ⟨R, 1, none⟩ (nd - 1) 31 (midL f 1 (nd - 1)) rfl (midL_len _ _ _) (midL_at (hF3.row HR.out hR HNE.out) (by omega)) (midL_good HFF.out (by omega)) (Or.inl (by decide)) (by omega) ?_); intro v4 w4 hF4))
          refine wp_loop_rounds 1 ?_
          rw [rounds_succ]
          go_wp2
          go_meet
          exact hF4.wide (by omega) (by omega)
        · go_wp2_with fail
          go_meet
          exact HC2.out.wide (by omega) (by omega)
      case rest =>
        have HC3 := Lib.hid hcut
        have hsz3 := hcut.size
        clear hcut
        rename World => w5
        go_upto_if 127 with (at_builtin; (refine fb_append rfl _ _ rfl W V0 B 1 40 hB _ rfl (HC3.out.alloc _) ⟨w5.heap.size, 0, none⟩ 1 1 [101] rfl rfl (new1 _ _ rfl _ _) (good1 (by decide) (by decide)) (Or.inl (by decide)) (by omega) ?_); intro v6 w6 hF6)
        have HC6 := Lib.hid hF6
        have hsz6 := hF6.size
        clear hF6
        go_cut [22, 127] from 272 (fun s22 _ wx => ∃ x : Int, s22 = .int .i64 x ∧ -1001 ≤ x ∧ x ≤ 999 ∧ wx = w6)
        case first =>
          by_cases h0 : nd = 0
          · have hb : ((nd : Int) == 0) = true := by rw [beq_iff_eq]; omega
            clear h0
            go_wp2_with fail
            go_meet
            exact ⟨0, rfl, by omega, by omega, rfl⟩
          · have hb : ((nd : Int) == 0) = false := by rw [beq_eq_false_iff_ne]; omega
            clear h0
            go_wp2_with fail
            go_meet
            exact ⟨dp - 1, rfl, by omega, by omega, rfl⟩
        case rest =>
          obtain ⟨x, rfl, hx1, hx2, rfl⟩ := hcut
          rename World => w6
          go_upto_if 129 with fail
          go_cut [19, 22, 129] from 272 (fun s19 s22 _ wx => ∃ (c : Int) (a : Nat), s19 = .int .u8 c ∧ 0 ≤ c ∧ c < 128 ∧ s22 = .int .i64 a ∧ a ≤ 1001 ∧ wx = w6)
          case first =>
            by_cases h0 : x < 0
            · go_wp2_with fail
              go_meet
              exact ⟨45, x.natAbs, rfl, by omega, by omega, by congr 1; omega, by omega, rfl⟩
            · go_wp2_with fail
              go_meet
              exact ⟨43, x.toNat, rfl, by omega, by omega, by congr 1; omega, by omega, rfl⟩
          case rest =>
            obtain ⟨c, a, rfl, hc1, hc2, rfl, ha, rfl⟩ := hcut
            rename World => w6
            have e8 : ∀ n : Nat, n < 256 → IntKind.u8.wrap (n : Int) = (n : Int) := fun n hn => by
              simp only [IntKind.wrap, IntKind.bits, IntKind.signed]
              simp
              omega
            by_cases h1 : a < 10
            · skip
              go_wp2_with (at_builtin; first
                | ((refine fb_append rfl _ _ rfl W V0 B 2 41 hB _ rfl (HC6.out.alloc _) ⟨w6.heap.size, 0, none⟩ 1 1 [c] rfl rfl (new1 _ _ rfl _ _) (good1 hc1 hc2) (Or.inl (by decide)) (by omega) ?_); intro v7 w7 hF7)
                | ((refine fb_append rfl _ _ rfl W V0 B 3 42 hB _ rfl (hF7.alloc _) ⟨w7.heap.size, 0, none⟩ 2 2 [_, _] rfl rfl (new2 _ _ rfl _ _ _) (by intro y hy; simp at hy; omega) (Or.inl (by decide)) (by omega) ?_); intro v8 w8 hF8))
              go_ret
              exact ⟨_, rfl, hF8.wide (by omega) (by omega)⟩
            · by_cases h2 : a < 100
              · have e1 : (a : Int).tmod 10 = (a : Int) % 10 := Int.tmod_eq_emod_of_nonneg (by omega)
                go_wp2_with (at_builtin; first
                  | ((refine fb_append rfl _ _ rfl W V0 B 2 41 hB _ rfl (HC6.out.alloc _) ⟨w6.heap.size, 0, none⟩ 1 1 [c] rfl rfl (new1 _ _ rfl _ _) (good1 hc1 hc2) (Or.inl (by decide)) (by omega) ?_); intro v7 w7 hF7)
                  | ((refine fb_append rfl _ _ rfl W V0 B 3 42 hB _ rfl (hF7.alloc _) ⟨w7.heap.size, 0, none⟩ 2 2 [_, _] rfl rfl (new2 _ _ rfl _ _ _) (by intro y hy; simp at hy; omega) (Or.inl (by decide)) (by omega) ?_); intro v8 w8 hF8))
                go_ret
                exact ⟨_, rfl, hF8.wide (by omega) (by omega)⟩
              · have e1 : (a : Int).tmod 10 = (a : Int) % 10 := Int.tmod_eq_emod_of_nonneg (by omega)
                go_wp2_with (at_builtin; first
                  | ((refine fb_append rfl _ _ rfl W V0 B 2 41 hB _ rfl (HC6.out.alloc _) ⟨w6.heap.size, 0, none⟩ 1 1 [c] rfl rfl (new1 _ _ rfl _ _) (good1 hc1 hc2) (Or.inl (by decide)) (by omega) ?_); intro v7 w7 hF7)
                  | ((refine fb_append rfl _ _ rfl W V0 B 3 42 hB _ rfl (hF7.alloc _) ⟨w7.heap.size, 0, none⟩ 3 3 [_, _, _] rfl rfl (new3 _ _ rfl _ _ _ _) (by intro y hy; simp at hy; omega) (Or.inl (by decide)) (by omega) ?_); intro v8 w8 hF8))
                go_ret
                exact ⟨_, rfl, hF8.wide (by omega) (by omega)⟩
end Go.Proofs.YtlbhebmjdaaglaaGreatDoor
