/-
  of a matrix; all of arguments.
-/
import Derived.Test.YtpcfmkongpmmmaaGreatDoorAlv
import Derived.Deep.AppendLies
import Derived.Deep.RegionLaw
namespace Go.Proofs.YtpcfmkongpmmmaaGreatDoor
set_option linter.unusedSimpArgs false
set_option linter.unusedVariables false
open Go Go.RowKit
set_option maxRecDepth 100000

theorem AOwns.setBelow {α : Type} {cells : α → List Value} {z : Nat} {ty : TypeId} {R : Nat → Nat → World → α → Prop} (hR : Hangs R) {w : World} {B : Nat} {v : Value} {xs : List α} (h : AOwns cells z ty R w B v xs) {a : Addr} (ha : a.block < B) (u : Value) :
    AOwns cells z ty R (w.setCell a u) B v xs := by
  refine ⟨h.own.setBelow ha u, fun i x hi => ?_⟩
  obtain ⟨L, H, h1, h2, h3, h4⟩ := h.hang i x hi
  refine ⟨L, H, h1, by simpa [World.setCell] using h2, h3, hR L H w _ x h4 fun k hk _ => ?_⟩
  exact Below.heap_setCell _ _ _ _ (by omega)

theorem MOwns.setBelow {α : Type} {cells : α → List Value} {z : Nat} {ty2 : TypeId} {w : World} {B : Nat} {v : Value} {rows : List (List α)} (h : MOwns cells z ty2 w B v rows) {a : Addr} (ha : a.block < B) (u : Value) :
    MOwns cells z ty2 (w.setCell a u) B v rows := by
  obtain ⟨ps, h1, h2, h3⟩ := h
  exact ⟨ps, h1, h2, h3.setBelow rowR_hangs ha u⟩

/-- A value of the thin package in a variable of the call's own. -/
def IVarAt (ty : TypeId) (w : World) (V : Nat) (k : Int) (f : Nat) (t : ByteArray) (u : Value) : Prop := w.heap[V]? = some (.cells #[.int .i64 k, .float .f64 f, .string t, u] ty (0, 0))

theorem IVarAt.ext {ty : TypeId} {w w' : World} {V : Nat} {k : Int} {f : Nat} {t : ByteArray} {u : Value} (h : IVarAt ty w V k f t u) (hb : Ext w w') : IVarAt ty w' V k f t u := by
  unfold IVarAt at h ⊢
  rw [hb.block V (block_lt_heap h)]; exact h

theorem IVarAt.grown {ty : TypeId} {w w' : World} {V : Nat} {k : Int} {f : Nat} {t : ByteArray} {u : Value} {r : Option Nat} (h : IVarAt ty w V k f t u) (hg : w.grownBy w' r) (hr : ∀ g, r = some g → V < g) : IVarAt ty w' V k f t u := by
  unfold IVarAt at h ⊢
  rw [hg.block V (block_lt_heap h) (fun e => by have := hr V e.symm; omega)]; exact h

theorem IVarAt.cells {ty : TypeId} {w : World} {V : Nat} {k : Int} {f : Nat} {t : ByteArray} {u : Value} (h : IVarAt ty w V k f t u) :
    w.cell? ⟨V, 0, none⟩ = some (.int .i64 k) ∧ w.cell? ⟨V, 1, none⟩ = some (.float .f64 f) ∧ w.cell? ⟨V, 2, none⟩ = some (.string t) ∧ w.cell? ⟨V, 3, none⟩ = some u ∧ ∀ i, w.frozen? ⟨V, i, none⟩ = false := by
  unfold IVarAt at h
  refine ⟨?_, ?_, ?_, ?_, ?_⟩
  · rw [World.cell?_of_block (w' := w) (w := w) rfl]; simp [World.cell?, h]
  · simp [World.cell?, h]
  · simp [World.cell?, h]
  · simp [World.cell?, h]
  · intro i; simp [World.frozen?, h]

theorem IVarAt.set {ty : TypeId} {w : World} {V : Nat} {k : Int} {f : Nat} {t : ByteArray} {u : Value} (h : IVarAt ty w V k f t u) (v : Value) : IVarAt ty (w.setCell ⟨V, 3, none⟩ v) V k f t v := by
  unfold IVarAt at h ⊢
  simp only [World.setCell, Array.getElem?_modify, h]
  simp

/-- append of a row to rows, at a step of a region that draws its order. -/
theorem step_mappend {α : Type} {cells : α → List Value} {z : Nat} {ty2 : TypeId} {st : TypeId}
    (hinfo : (Tryz.prog.info? ty2).map (fun i => (i.zero, i.size, i.bytes)) = some (some (.slice none 0 0), 1, 24)) (hst : Tryz.prog.underlying st = some (.slice ty2))
    {ops : Array Oper} {o : Oper} {a : Act} {w : World} {K : Act → World → Prop} {Q : Exit → Act → World → Prop} {E : Prop} (hgd : o.guard = none) (s x : Operand)
    (ho : o.op = .call { callee := .builtin .append, args := #[s, x], argTypes := #[st, st] })
    (B : Nat) (v : Value) (rows : List (List α)) (hs : a.eval s = v) (hown : MOwns cells z ty2 w B v rows) (b bo c : Nat) (row : List α) (hx : a.eval x = .slice (some ⟨b, bo, none⟩) 1 c)
    (g rc : Nat) (hc : w.cell? ⟨b, bo, none⟩ = some (.slice (some ⟨g, 0, none⟩) row.length rc)) (hrow : GLie cells z w g 0 row) (hne : row ≠ []) (hg : B ≤ g) (hgl : g < w.heap.size) (hgv : v.ownBlock ≠ some g)
    (hlen : rows.length ≤ 100000000000) (hB : B ≤ w.heap.size)
    (h : ∀ g' c' w', MOwns cells z ty2 w' B (.slice (some ⟨g', 0, none⟩) (rows.length + 1) c') (rows ++ [row]) → w.grownBy w' v.ownBlock → K (a.put o.dst (.slice (some ⟨g', 0, none⟩) (rows.length + 1) c')) w') : if Region.wanted o (yielded ops a.tmps) = true then Oper.wp Tryz.prog o a w K Q else E := by
  obtain ⟨ps, h1, h2, h3⟩ := hown
  obtain ⟨i0, hi, hz0, hz1, hz2⟩ := info_parts hinfo
  have hpl : ps.length = rows.length := by rw [← h1, List.length_map]
  refine step_append_lies w hgd s x st ho B ty2 i0 _ 1 24 hst hi hz0 hz1 hz2 rfl (by decide) v ps.length (ps.flatMap slCells) hs h3.own
    ⟨b, bo, none⟩ 1 c [.slice (some ⟨g, 0, none⟩) row.length rc] hx rfl ?_ ?_ (by decide) (by unfold maxLen; omega) (by omega) hB w.heap.size rfl ?_
  · intro j u hj
    cases j with
    | zero =>
      simp only [List.getElem?_cons_zero, Option.some.injEq] at hj
      subst hj
      simpa [Addr.add] using hc
    | succ j => simp at hj
  · intro u hu
    have e : u = .slice (some ⟨g, 0, none⟩) row.length rc := by simpa using hu
    subst e; rfl
  · intro g' cap' w' k1 k2 k4' _
    have hR : Hangs (RowR cells z) := rowR_hangs
    have k4 : (Value.slice (some ⟨g', 0, none⟩) (ps.length + 1) cap').ownBlock = v.ownBlock ∨ (Value.slice (some ⟨g', 0, none⟩) (ps.length + 1) cap').ownBlock = some w.heap.size := by
      rcases k4' with k | k
      · exact Or.inl k.symm
      · exact Or.inr (by rw [← k]; rfl)
    have hown' : GOwns (slCells (α := α)) 1 ty2 w' B (.slice (some ⟨g', 0, none⟩) (ps.length + 1) cap') (ps ++ [(.slice (some ⟨g, 0, none⟩) row.length rc, row)]) := by
      unfold GOwns
      rw [List.length_append, List.flatMap_append]
      exact k1
    have hh := h g' cap' w'
    rw [← hpl] at hh
    generalize Value.slice (some ⟨g', 0, none⟩) (ps.length + 1) cap' = v' at k4 hown' hh ⊢
    have keep : ∀ L H p, H ≤ w.heap.size → (∀ g, v.ownBlock = some g → g < L ∨ H ≤ g) → RowR cells z L H w p → (∀ g, v'.ownBlock = some g → g < L ∨ H ≤ g) ∧ RowR cells z L H w' p := by
      intro L H x hH hv hr
      refine ⟨?_, hR L H w w' x hr fun k hk1 hk2 => k2.block k (by omega) fun e => ?_⟩
      · rcases k4 with k4 | k4
        · rw [k4]; exact hv
        · intro g hg
          rw [k4] at hg
          cases hg
          right; exact hH
      · rcases hv k e.symm with h1 | h1 <;> omega
    refine hh ⟨ps ++ [(.slice (some ⟨g, 0, none⟩) row.length rc, row)], by rw [List.map_append, h1]; rfl, ?_, hown', fun i x' hi' => ?_⟩ k2
    · intro p hp
      rcases List.mem_append.1 hp with hp | hp
      · exact h2 p hp
      · have e : p = (.slice (some ⟨g, 0, none⟩) row.length rc, row) := by simpa using hp
        subst e; rfl
    · rcases Nat.lt_or_ge i ps.length with hlt | hge
      · rw [List.getElem?_append_left hlt] at hi'
        obtain ⟨L', H', q1, q2, q3, q4⟩ := h3.hang i x' hi'
        obtain ⟨r1, r2⟩ := keep L' H' x' q2 q3 q4
        exact ⟨L', H', q1, Nat.le_trans q2 k2.size, r1, r2⟩
      · rw [List.getElem?_append_right hge] at hi'
        have hi0 : i - ps.length = 0 := by
          apply Classical.byContradiction
          intro hn
          rw [List.getElem?_eq_none (by simp; omega)] at hi'; cases hi'
        rw [hi0] at hi'
        have e : (Value.slice (some ⟨g, 0, none⟩) row.length rc, row) = x' := by simpa using hi'
        subst e
        obtain ⟨r1, r2⟩ := keep g (g + 1) (.slice (some ⟨g, 0, none⟩) row.length rc, row) (by omega) (fun g' hg' => by
          have : g' ≠ g := fun e => hgv (by rw [hg', e])
          omega) ⟨hne, g, rc, rfl, Nat.le_refl _, Nat.lt_succ_self _, hrow⟩
        exact ⟨g, g + 1, hg, Nat.le_trans (by omega) k2.size, r1, r2⟩

/-- The rows of a matrix on their way from the reference to the thin package. -/
def OfSt (g : Sc → Iv) (rows : List (List Sc)) (V : Nat) (t : ByteArray) (w0 wr : World) (i : Value) : Prop :=
  ∃ (k : Nat) (u : Value), k ≤ rows.length ∧ i = .int .i64 k ∧ Ext w0 wr ∧ IVarAt 43 wr V 5 0 t u ∧ MOwns Iv.cells 4 44 wr (V + 1) u ((rows.take k).map (List.map g))

set_option maxHeartbeats 3200000 in
theorem of_mat (g : Sc → Iv) (m : Mc) (rows : List (List Sc)) (L H : Nat) (w : World) (hv : VtR L H w (m, .mat rows)) (hH : H ≤ w.heap.size)
    (hof : ∀ row ∈ rows, ∀ x ∈ row, ∀ w', Calls Tryz.prog 23 #[x.val] w' (Gives w' (g x).val)) :
    Calls Tryz.prog 23 #[m.val] w fun e w' => ∃ im, e = .returned (Im.val im) ∧ ViR w.heap.size w'.heap.size w' (im, .mat (rows.map (List.map g))) ∧ Ext w w' := by
  obtain ⟨hne, hfl, hk5, b, c, hm, hb1, hb2, hml⟩ := hv
  have hm' : m = ⟨5, 0, 0, ⟨#[]⟩, some ⟨b, 0, none⟩, rows.length, c⟩ := hm
  subst hm'
  have hrl : rows.length ≤ 1000 := Nat.le_trans (rows_le_flatten fun row hr => by
    obtain ⟨i, hi⟩ := List.getElem?_of_mem hr
    exact (hml i row hi).1) hfl
  have HML := Lib.hid hml
  have HOF := Lib.hid hof
  have HFL := Lib.hid hfl
  clear hml hof hk5 hm hfl
  go_enter Tryz.func23, Tryz.ntmps23
  go_wp2
  obtain ⟨w0, hw0⟩ : ∃ w0, (w.alloc (.cells #[.int .i64 5, .int .i64 0, .int .i64 0, .string ⟨#[]⟩, .slice (some ⟨b, 0, none⟩) rows.length c] 28)).alloc (.cells #[.int .i64 0, .float .f64 0, .string ⟨#[]⟩, .slice none 0 0] 43) = w0 := ⟨_, rfl⟩
  have hs0 : w0.heap.size = w.heap.size + 1 + 1 := by rw [← hw0]; simp
  have hx0 : Ext w w0 := by rw [← hw0]; exact ((Ext.rf w).al _).al _
  have hv4 : w0.cell? ⟨w.heap.size, 4, none⟩ = some (.slice (some ⟨b, 0, none⟩) rows.length c) := by rw [← hw0]; simp [go_sem]
  have HW0 := Lib.hid hw0; clear hw0
  go_loopw [4] (fun i wr => OfSt g rows (w.heap.size + 1 + 1) ⟨#[]⟩ w0 wr i) (fun i _ => rows.length - (intOf i).toNat)
  case atStart =>
    refine ⟨0, .slice none 0 0, Nat.zero_le _, rfl, ?_, ?_, MOwns.nil _ _⟩
    · rw [HW0.out]; exact (Ext.rf w0).al _
    · rw [HW0.out, ← hs0]; exact heap_alloc_new _ _
  case round =>
    obtain ⟨k, u, hk, rfl, hb, hvar, hown⟩ := hrel
    have HV := Lib.hid hvar; have HO := Lib.hid hown
    obtain ⟨v0, v1, v2, v3, hvf⟩ := hvar.cells
    have hvl := block_lt_heap hvar
    have c4 := hb.get hv4
    have c4r := hb.cell (p := ⟨w.heap.size, 4, none⟩) (by rw [hs0]; show w.heap.size < _; omega)
    clear hvar hown
    by_cases hlt : k < rows.length
    · obtain ⟨row, Hr⟩ := elem_at hlt
      obtain ⟨hrne, gb, rc, hcell, _, _, hgl⟩ := HML.out k row Hr.out
      have hcw := (hx0.tr hb).get hcell
      simp only [Nat.zero_add] at hcw
      have hlen : row.length ≤ 1000 := Nat.le_trans (len_le_flatten (mem_at Hr)) HFL.out
      have HALL := Lib.hid (fun w' (hw : Ext w w') => all_ok g row gb 0 rc w' (by omega) (Lie.ext (Lie.of_glie hgl) hw) fun x w2 hxm => HOF.out row (mem_at Hr) x hxm w2)
      clear hcell hgl
      have HXR := Lib.hid (((hx0.tr hb)))
      go_wp2_with fail
      have hmne : row.map g ≠ [] := by simpa using hrne
      have hrl2 : ((rows.take k).map (List.map g)).length ≤ 1000 := by rw [List.length_map, List.length_take]; omega
      go_region_law (first
        | (go_simp; go_at_call 14; refine (HALL.out _ (HXR.out.tr (by repeat (first | with_reducible exact Below.refl _ _ | with_reducible assumption | ((with_reducible refine Below.setCell ?_ ?_ _); rotate_left; (simp; try omega)) | (with_reducible refine Ext.tr ?_ (by with_reducible assumption)) | (with_reducible refine Ext.al ?_ _) | (with_reducible refine below_drewN ?_ _) | (with_reducible refine Below.drew ?_))))).mono ?_; rintro e w2 ⟨v2, rfl, hown2, hb2⟩
           obtain ⟨g2, cap2, hv2, hg2, hgl2⟩ := GOwns.lie Iv.cells_len hown2 hmne
           subst hv2
           have hgs2 := (World.ownsRow.lt hown2 g2 rfl).2
           have hb2r : Ext wr w2 := Ext.tr (Below.drew (Ext.rf wr)) hb2
           have HV2 := Lib.hid (IVarAt.ext HV.out hb2r)
           have HO2 := Lib.hid (MOwns.ext HO.out hb2r)
           have HG2 := Lib.hid hgl2
           obtain ⟨z0, z1, z2, z3, zf⟩ := HV2.out.cells
           have hsz2 : wr.heap.size ≤ w2.heap.size := hb2.size
           have hgd2 : wr.heap.size ≤ g2 := hg2
           have hql2 : w.heap.size + 1 + 1 < w2.heap.size := by omega
           clear hown2 hgl2 hg2
           dsimp only)
        | ((refine step_mappend infoSlI Tryz.underlying41 rfl _ _ (by rfl) (w.heap.size + 1 + 1 + 1) _ ((rows.take k).map (List.map g)) (by rfl) (HO2.out.alloc _) w2.heap.size 0 1 (row.map g) (by rfl) g2 cap2 (by rw [World.cell?_alloc_at _ _ _ _ rfl]; simp) (HG2.out.ext ((Ext.rf _).al _)) hmne (by omega) (by simp; omega) (fun e => by have := HO.out.lt g2 e; omega) (by omega) (by simp; omega) ?_)
           intro g3 c3 w3 hown3 hg3
           have HV3 := Lib.hid (IVarAt.grown (IVarAt.ext HV2.out ((Ext.rf _).al _)) hg3 (fun q hq => by have := HO.out.below q hq; omega))
           have HO3 := Lib.hid hown3
           obtain ⟨y0, y1, y2, y3, yf⟩ := HV3.out.cells
           clear hown3))
      all_goals
        have hn4 : ((rows.take k).map (List.map g)).length = k := by rw [List.length_map, List.length_take]; omega
        have ho3 := HO3.out
        rw [hn4] at ho3
        have HV4 := Lib.hid (HV3.out.set (.slice (some ⟨g3, 0, none⟩) (k + 1) c3))
        have HO4 := Lib.hid (ho3.setBelow (a := ⟨w.heap.size + 1 + 1, 3, none⟩) (Nat.lt_succ_self _) (.slice (some ⟨g3, 0, none⟩) (k + 1) c3))
        have hb4 : Ext w0 w3 := Below.grown ((hb.tr (Ext.tr (Below.drew (Ext.rf wr)) hb2)).al _) hg3 (by have := hb.size; simp; omega) (fun q hq => by have := HO.out.below q hq; omega)
        clear ho3 HO3
        go_wp2
        go_roundw
        case rel =>
          refine ⟨k + 1, .slice (some ⟨g3, 0, none⟩) (k + 1) c3, by omega, by go_num, ?_, ?_, ?_⟩
          · exact Below.setCell hb4 (show w0.heap.size ≤ w.heap.size + 1 + 1 by rw [hs0]; exact Nat.le_refl _) _
          · exact HV4.out
          · rw [map_take_succ' Hr]; exact HO4.out
        case measure => simp [intOf]; omega
    · have hfull : rows.take k = rows := List.take_of_length_le (by omega)
      have ho := HO.out
      rw [hfull] at ho
      obtain ⟨g', c', hu, hg', hgl', hml'⟩ := ho.lie (by simpa using hne)
      rw [List.length_map] at hu
      subst hu
      have hres := fun o => hb.cell (p := ⟨w.heap.size + 1, o, none⟩) (by rw [hs0]; show w.heap.size + 1 < _; omega)
      have hresf := fun o => hb.frozen (p := ⟨w.heap.size + 1, o, none⟩) (by rw [hs0]; show w.heap.size + 1 < _; omega)
      rw [← HW0.out] at hres hresf
      have HML2 := Lib.hid hml'
      have hqr : w.heap.size + 1 < wr.heap.size := by omega
      have hbw := hx0.tr hb
      clear ho hml' hfull
      go_wp2
      refine bodyPost_ret (v := Im.val ⟨5, 0, ⟨#[]⟩, some ⟨g', 0, none⟩, rows.length, c'⟩) (by simp [results, Tryz.results23, go_sem, *]) rfl ⟨⟨5, 0, ⟨#[]⟩, some ⟨g', 0, none⟩, rows.length, c'⟩, rfl, ⟨by simpa using hne, ?_, g', c', by rw [List.length_map], by omega, by simpa using hgl', ?_⟩, (by repeat (first | with_reducible exact Below.refl _ _ | with_reducible assumption | ((with_reducible refine Below.setCell ?_ ?_ _); rotate_left; (simp; try omega)) | (with_reducible refine Ext.tr ?_ (by with_reducible assumption)) | (with_reducible refine Ext.al ?_ _) | (with_reducible refine below_drewN ?_ _) | (with_reducible refine Below.drew ?_)))⟩
      · have h2 : (rows.map (List.map g)).flatten.length = rows.flatten.length := by rw [← List.map_flatten, List.length_map]
        rw [h2]; exact HFL.out
      · refine (HML2.out.keep (by omega) (by simpa using hgl') (fun q hq _ => ?_)).mono (by omega) (by simp)
        have e : ∀ (x : World) (o : Nat) (v : Value), (x.setCell ⟨w.heap.size + 1, o, none⟩ v).heap[q]? = x.heap[q]? := fun x o v => Below.heap_setCell _ _ _ _ (show q ≠ w.heap.size + 1 by omega)
        rw [e, e, e, e]

def AllSt (N : Nat) (g : Sc → Iv) (ys : List (Mc × Vt Sc)) (w wr : World) (v i : Value) : Prop :=
  ∃ (k : Nat) (zs : List (Im × Vt Iv)), k ≤ ys.length ∧ k ≤ N ∧ i = .int .i64 k ∧ Ext w wr ∧ AOwns viCells 4 43 ViR wr w.heap.size v zs ∧ vts zs = (vts (ys.take k)).map (Vt.map g)

theorem vi_new (w : World) (x : Im) (y : Vt Iv) : GLie viCells 4 (w.alloc (.cells #[.int .i64 x.k, .float .f64 x.f, .string x.t, .slice x.ra x.rl x.rc] 43)) w.heap.size 0 [(x, y)] :=
  glie_one (cells := viCells) (z := 4) w (x, y) _ _ rfl

set_option maxHeartbeats 1600000 in
/-- all: each argument by of. -/
theorem all_vt (g : Sc → Iv) (ys : List (Mc × Vt Sc)) (b c : Nat) (w : World) (hl : ys.length ≤ 1000000) (hx : ArgsIn w b 0 ys) (hne : ys ≠ [])
    (hof : ∀ y ∈ ys, y.2.all fun x => ∀ w', Calls Tryz.prog 23 #[x.val] w' (Gives w' (g x).val)) :
    Calls Tryz.prog 14 #[.slice (some ⟨b, 0, none⟩) ys.length c] w fun e w' => ∃ b' c' zs, e = .returned (.slice (some ⟨b', 0, none⟩) ys.length c') ∧ ArgsIv w' b' 0 zs ∧ vts zs = (vts ys).map (Vt.map g) ∧ Ext w w' := by
  have hofs : ∀ (y : Mc × Vt Sc) (w' : World), y ∈ ys → (∃ L H, H ≤ w'.heap.size ∧ VtR L H w' y) → Calls Tryz.prog 23 #[y.1.val] w' fun e w2 => ∃ im, e = .returned (Im.val im) ∧ ViR w'.heap.size w2.heap.size w2 (im, y.2.map g) ∧ Ext w' w2 := by
    rintro ⟨m, y⟩ w' hy ⟨L, H, h1, h2⟩
    have h := hof _ hy
    cases y with
    | sc x =>
      obtain ⟨hm, _⟩ := h2
      have hm' : m = x.mc := hm
      subst hm'
      exact (h w').mono fun e w2 ⟨he, hb⟩ => ⟨(g x).im, he, rfl, hb⟩
    | mat rows => exact of_mat g m rows L H w' h2 h1 h
  have HX := Lib.hid hx
  have HOF := Lib.hid hofs
  clear hx hof hofs
  go_enter Tryz.func14, Tryz.ntmps14
  go_wp2
  go_loopw [3, 4] (fun v i wr => AllSt ys.length g ys w wr v i) (fun _ i _ => ys.length - (intOf i).toNat)
  case atStart => exact ⟨0, [], Nat.zero_le _, Nat.zero_le _, rfl, Ext.rf _, AOwns.nil _ _, rfl⟩
  case round =>
    obtain ⟨k, zs, hk, _, rfl, hb, hown, hzs⟩ := hrel
    have HO := Lib.hid hown; clear hown
    have HZ := Lib.hid hzs; clear hzs
    by_cases hlt : k < ys.length
    · obtain ⟨y, Hy⟩ := elem_at hlt
      obtain ⟨c0, c1, c2, c3, c4⟩ := (HX.out.ext hb).at5 Hy.out
      have HC := Lib.hid (HOF.out y wr (mem_at Hy) ((HX.out.ext hb).2 k y Hy.out))
      have hzl : zs.length = k := by
        have := congrArg List.length HZ.out
        simp only [vts, List.length_map, List.length_take] at this
        omega
      simp only [Nat.zero_add] at c0 c1 c2 c3 c4
      obtain ⟨⟨yk, yn, yd, yt, ra, rl, rc⟩, y2⟩ := y
      go_wp2_with fail
      refine (HC.out).mono ?_
      rintro e w1 ⟨im, rfl, hvi, hb1⟩
      have hb2 := hb.tr hb1
      have hsz := hb2.size
      have hszr := hb.size
      have hsz1 := hb1.size
      obtain ⟨ik, iff, it, ia, il, ic⟩ := im
      have HVI := Lib.hid hvi; clear hvi
      go_wp2_with (at_builtin; (refine aappend viR_hangs (by decide) viCells_len viCells_one infoIVal rfl Tryz.underlying44 (by decide) rfl _ _ rfl w.heap.size _ zs rfl ((HO.out.ext viR_hangs hb1).alloc viR_hangs _) w1.heap.size 0 1 (⟨ik, iff, it, ia, il, ic⟩, y2.map g) rfl (vi_new w1 ⟨ik, iff, it, ia, il, ic⟩ _) (by omega) (by simp; omega) wr.heap.size w1.heap.size (by omega) (by simp) (fun q hq => Or.inl (HO.out.lt q hq)) (viR_hangs _ _ _ _ _ HVI.out fun q _ hq => heap_alloc_old _ _ hq) ?_); intro v' w2 hown2 hg2)
      have hb3 : Ext w w2 := Below.grown (hb2.al _) hg2 (by simp; omega) (fun q hq => HO.out.below q hq)
      have HO2 := Lib.hid hown2; clear hown2
      go_roundw
      case rel =>
        refine ⟨k + 1, zs ++ [(⟨ik, iff, it, ia, il, ic⟩, y2.map g)], by omega, by omega, by go_num, hb3, HO2.out, ?_⟩
        have hz := HZ.out
        unfold vts at hz ⊢
        rw [List.map_append, hz, map_take_succ' Hy, List.map_append]; rfl
      case measure => simp [intOf]; omega
    · have hfull : ys.take k = ys := List.take_of_length_le (by omega)
      have hz := HZ.out
      rw [hfull] at hz
      have hzl : zs.length = ys.length := by
        have := congrArg List.length hz
        simpa [vts] using this
      have hzne : zs ≠ [] := by
        intro h0; rw [h0] at hzl
        exact hne (List.eq_nil_of_length_eq_zero (by simpa using hzl.symm))
      obtain ⟨b', c', hv, _, _, hgl, hh⟩ := HO.out.lie viCells_len hzne
      have hargs : ArgsIv wr b' 0 zs := ⟨hgl, fun i y hi => by
        obtain ⟨L, H, _, q2, q3⟩ := hh i y hi
        exact ⟨L, H, q2, q3⟩⟩
      rw [hzl] at hv
      have HV := Lib.hid hv; have HAR := Lib.hid hargs; have HZZ := Lib.hid hz
      clear hgl hh hargs hv hz hfull
      go_wp2
      refine bodyPost_ret (v := u3) (by simp [results, Tryz.results14, go_sem, *]) rfl ⟨b', c', zs, by rw [HV.out], HAR.out, HZZ.out, hb⟩
end Go.Proofs.YtpcfmkongpmmmaaGreatDoor
