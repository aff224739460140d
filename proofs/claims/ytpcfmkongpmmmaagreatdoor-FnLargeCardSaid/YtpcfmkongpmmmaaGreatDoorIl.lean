/-
  innerList over arguments, matrices among them.
-/
import Derived.Test.YtpcfmkongpmmmaaGreatDoorIm
import Derived.Test.YtpcfmkongpmmmaaGreatDoorNx
namespace Go.Proofs.YtpcfmkongpmmmaaGreatDoor
set_option linter.unusedSimpArgs false
set_option linter.unusedVariables false
open Go Go.RowKit
set_option maxRecDepth 100000

/-- The list of arguments in memory, and what hangs on them. -/
def FArgs (w : World) (b B : Nat) (es : List (Nat × Value)) (ps : List (Array Value × Vt Iv)) : Prop :=
  IsList w b es ∧ es.map Prod.snd = ps.map (fun p => Value.iface 64 (.agg p.1)) ∧ B ≤ b ∧ (∀ x ∈ es, B ≤ x.1) ∧
    ∀ (i : Nat) (p : Array Value × Vt Iv), ps[i]? = some p → ∃ L H, H ≤ w.heap.size ∧ (∀ s ∈ b :: es.map Prod.fst, s < L ∨ H ≤ s) ∧ FaR L H w p

theorem FArgs.ext {w w' : World} {b B : Nat} {es : List (Nat × Value)} {ps : List (Array Value × Vt Iv)} (h : FArgs w b B es ps) (hb : Ext w w') : FArgs w' b B es ps := by
  obtain ⟨h1, h2, h3, h4, h5⟩ := h
  refine ⟨h1.ext hb, h2, h3, h4, fun i p hp => ?_⟩
  obtain ⟨L, H, q1, q2, q3⟩ := h5 i p hp
  exact ⟨L, H, Nat.le_trans q1 hb.size, q2, faR_hangs L H w w' p q3 fun k _ hk => hb.block k (by omega)⟩

theorem FArgs.len {w : World} {b B : Nat} {es : List (Nat × Value)} {ps : List (Array Value × Vt Iv)} (h : FArgs w b B es ps) : es.length = ps.length := by
  have := congrArg List.length h.2.1
  simpa using this

theorem FArgs.blocks {w : World} {b B : Nat} {es : List (Nat × Value)} {ps : List (Array Value × Vt Iv)} (h : FArgs w b B es ps) : ∀ s ∈ b :: es.map Prod.fst, s < w.heap.size := by
  intro s hs
  rcases List.mem_cons.1 hs with rfl | hs
  · exact block_lt h.1.root
  · obtain ⟨x, hx, rfl⟩ := List.mem_map.1 hs
    obtain ⟨i, hi⟩ := List.getElem?_of_mem hx
    exact block_lt (h.1.elem i x.1 x.2 hi)

theorem push_fargs (w : World) (b B : Nat) (es : List (Nat × Value)) (ps : List (Array Value × Vt Iv)) (p : Array Value × Vt Iv) (L H : Nat) (h : FArgs w b B es ps) (hlen : ps.length ≤ 1000000000) (hB : B ≤ w.heap.size)
    (hH : H ≤ w.heap.size) (hL : ∀ s ∈ b :: es.map Prod.fst, s < L ∨ H ≤ s) (hp : FaR L H w p) :
    Calls Tryz.prog 43 #[ptr b, .iface 64 (.agg p.1)] w fun e w' => (∃ q, e = .returned (ptr q)) ∧ (∃ es', FArgs w' b B es' (ps ++ [p])) ∧ ∀ a : World, a.heap.size ≤ B → Ext a w → Ext a w' := by
  have hel := h.len
  obtain ⟨h1, h2, h3, h4, h5⟩ := h
  refine (push_any w b es _ p.1 h1 (by omega)).mono ?_
  rintro e w' ⟨rfl, hl, hk⟩
  have keep : ∀ L H x, H ≤ w.heap.size → (∀ s ∈ b :: es.map Prod.fst, s < L ∨ H ≤ s) → FaR L H w x → FaR L H w' x := fun L H x hH hs hx =>
    faR_hangs L H w w' x hx fun k hk1 hk2 => hk.block k (by omega) fun hm => by
      rcases hs k hm with h | h <;> omega
  have hs' : ∀ L H, H ≤ w.heap.size → (∀ s ∈ b :: es.map Prod.fst, s < L ∨ H ≤ s) → ∀ s ∈ b :: (es ++ [(w.heap.size, Value.iface 64 (.agg p.1))]).map Prod.fst, s < L ∨ H ≤ s := by
    intro L H hH hs s hm
    rw [List.map_append, ← List.cons_append] at hm
    rcases List.mem_append.1 hm with hm | hm
    · exact hs s hm
    · have e : s = w.heap.size := by simpa using hm
      right; omega
  refine ⟨⟨_, rfl⟩, ⟨_, hl, by rw [List.map_append, List.map_append, h2]; rfl, h3, ?_, ?_⟩, fun a ha hb => hk.ext hb ?_⟩
  · intro x hx
    rcases List.mem_append.1 hx with hx | hx
    · exact h4 x hx
    · have : x = (w.heap.size, Value.iface 64 (.agg p.1)) := by simpa using hx
      rw [this]; exact hB
  · intro i x hi
    rcases Nat.lt_or_ge i ps.length with hlt | hge
    · rw [List.getElem?_append_left hlt] at hi
      obtain ⟨L', H', q1, q2, q3⟩ := h5 i x hi
      exact ⟨L', H', Nat.le_trans q1 hk.size, hs' L' H' q1 q2, keep L' H' x q1 q2 q3⟩
    · rw [List.getElem?_append_right hge] at hi
      have hi0 : i - ps.length = 0 := by
        apply Classical.byContradiction; intro hn
        rw [List.getElem?_eq_none (by simp; omega)] at hi; cases hi
      rw [hi0] at hi
      have e : p = x := by simpa using hi
      subst e
      exact ⟨L, H, Nat.le_trans hH hk.size, hs' L H hH hL, keep L H p hH hL hp⟩
  · intro k hk'
    rcases List.mem_cons.1 hk' with rfl | hk'
    · omega
    · obtain ⟨x, hx, rfl⟩ := List.mem_map.1 hk'
      have := h4 x hx; omega

def IlSt (us : List (Im × Vt Iv)) (b : Nat) (w wr : World) (i : Value) : Prop :=
  ∃ (k : Nat) (es : List (Nat × Value)) (ps : List (Array Value × Vt Iv)), k ≤ us.length ∧ i = .int .i64 k ∧ Ext w wr ∧ FArgs wr b w.heap.size es ps ∧ vts ps = vts (us.take k)

def IlP (us : List (Im × Vt Iv)) (w : World) (e : Ending) (w' : World) : Prop :=
  ∃ p es ps, e = .returned (ptr p) ∧ FArgs w' p w.heap.size es ps ∧ vts ps = vts us ∧ Ext w w'

set_option maxHeartbeats 1600000 in
theorem innerList_vi (us : List (Im × Vt Iv)) (b c : Nat) (w : World) (hl : us.length ≤ 1000000) (hx : ArgsIv w b 0 us) (hok : ∀ u ∈ us, u.2.all IvOk) :
    Calls Tryz.prog 27 #[.slice (some ⟨b, 0, none⟩) us.length c] w (IlP us w) := by
  have hins : ∀ (u : Im × Vt Iv) (w' : World), u ∈ us → (∃ L H, H ≤ w'.heap.size ∧ ViR L H w' u) → Calls Tryz.prog 44 #[u.1.val] w' fun e w2 => ∃ fa, e = .returned (.agg fa) ∧ FaR w'.heap.size w2.heap.size w2 (fa, u.2) ∧ Ext w' w2 := by
    rintro ⟨m, y⟩ w' hu ⟨L, H, h1, h2⟩
    have h := hok _ hu
    cases y with
    | sc x =>
      have hm : m = x.im := h2
      subst hm
      exact (innerC_ok x w' h).mono fun e w2 ⟨he, hb⟩ => ⟨innerC x, he, rfl, hb⟩
    | mat rows => exact innerArg_mat m rows L H w' h2 h1 h
  have HX := Lib.hid hx
  have HI := Lib.hid hins
  clear hx hok hins
  go_enter Tryz.func27, Tryz.ntmps27
  go_wp2_with fail
  refine (list_new _).mono ?_
  rintro e w1 ⟨rfl, hl1, hb1⟩
  have hargs : FArgs w1 w.heap.size w.heap.size [] [] := ⟨hl1, rfl, Nat.le_refl _, ⟨by simp, by simp⟩⟩
  have HA := Lib.hid hargs; clear hargs hl1
  go_wp2
  go_loopw [9] (fun i wr => IlSt us w.heap.size w wr i) (fun i _ => us.length - (intOf i).toNat)
  case atStart => exact ⟨0, [], [], Nat.zero_le _, rfl, hb1, HA.out, rfl⟩
  case round =>
    obtain ⟨k, es, ps, hk, rfl, hb, hargs, hps⟩ := hrel
    have HO := Lib.hid hargs; clear hargs
    have HPS := Lib.hid hps; clear hps
    by_cases hlt : k < us.length
    · obtain ⟨u, Hu⟩ := elem_at hlt
      have hat := (HX.out.ext hb).1 k u Hu.out
      have c0 := hat 0 _ rfl; have c1 := hat 1 _ rfl; have c2 := hat 2 _ rfl; have c3 := hat 3 _ rfl
      simp only [Nat.zero_add, Nat.add_zero] at c0 c1 c2 c3
      have hbl := lt_of_cell c0
      have hpl : ps.length = k := by
        have := congrArg List.length HPS.out
        simp only [vts, List.length_map, List.length_take] at this
        omega
      have hul := (HX.out.ext hb).2 k u Hu.out
      have HC := Lib.hid (fun (w' : World) (hw : Ext wr w') => HI.out u w' (mem_at Hu) (by
        obtain ⟨L, H, q1, q2⟩ := hul
        exact ⟨L, H, Nat.le_trans q1 hw.size, viR_hangs L H wr w' u q2 fun q _ hq => hw.block q (by omega)⟩))
      have HS := Lib.hid (show ∀ fa : Array Value, vts (ps ++ [(fa, u.2)]) = vts (us.take (k + 1)) from fun fa => by
        have hp := HPS.out
        unfold vts at hp ⊢
        rw [List.map_append, hp, map_take_succ' Hu]; rfl)
      clear hat hul
      obtain ⟨⟨uk, uf, ut, ua, ul, uc⟩, y⟩ := u
      go_wp2_with fail
      refine (HC.out _ ((Ext.rf _).al _)).mono ?_
      rintro e w2 ⟨fa, rfl, hfa, hb2⟩
      have hb3 : Ext w w2 := (hb.al _).tr hb2
      have HO2 := Lib.hid ((HO.out.ext ((Ext.rf _).al _)).ext hb2)
      have hsz := hb3.size
      have HFA := Lib.hid hfa; clear hfa
      have hsz2 := hb2.size
      have hblk := HO.out.blocks
      go_wp2_with fail
      refine (push_fargs w2 w.heap.size w.heap.size es ps (fa, y) _ _ HO2.out (by omega) hsz (Nat.le_refl _) (fun s hs => Or.inl (by have := hblk s hs; simp; omega)) HFA.out).mono ?_
      rintro e w3 ⟨⟨p, rfl⟩, ⟨es', hargs3⟩, hext⟩
      have hb4 := hext w (Nat.le_refl _) hb3
      have HO3 := Lib.hid hargs3; clear hargs3 hext
      go_wp2
      go_roundw
      case rel => exact ⟨k + 1, es', ps ++ [(fa, y)], by omega, by go_num, hb4, HO3.out, HS.out fa⟩
      case measure => simp [intOf]; omega
    · have hfull : us.take k = us := List.take_of_length_le (by omega)
      have hps := HPS.out
      rw [hfull] at hps
      go_wp2
      exact bodyPost_ret (v := ptr w.heap.size) (by simp [results, Tryz.results27, go_sem, *]) rfl ⟨w.heap.size, es, ps, rfl, HO.out, hps, hb⟩
end Go.Proofs.YtpcfmkongpmmmaaGreatDoor
