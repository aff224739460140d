/-
  innerArg of a matrix.
-/
import Derived.Test.YtpcfmkongpmmmaaGreatDoorIn2
import Derived.Test.YtpcfmkongpmmmaaGreatDoorInn
import Derived.Test.YtpcfmkongpmmmaaGreatDoorL
import Derived.Deep.RegionLaw
namespace Go.Proofs.YtpcfmkongpmmmaaGreatDoor
set_option linter.unusedSimpArgs false
set_option linter.unusedVariables false
open Go Go.RowKit
set_option maxRecDepth 100000

theorem infoF : (Tryz.prog.info? 64).map (fun i => (i.zero, i.size, i.bytes)) = some (some (.agg #[.string ⟨#[]⟩, .float .f64 0, .string ⟨#[]⟩, .slice none 0 0, .slice none 0 0, .bool false, .string ⟨#[]⟩, .int .u8 0, .pointer none, .pointer none]), 10, 136) := by kernel_rfl
theorem infoSlF : (Tryz.prog.info? 59).map (fun i => (i.zero, i.size, i.bytes)) = some (some (.slice none 0 0), 1, 24) := by kernel_rfl

/-- append of elements, wider ones too. -/
theorem gappend' {α : Type} {cells : α → List Value} {z : Nat} {ty : TypeId} (hz : 0 < z) (hl : ∀ x, (cells x).length = z) (hone : ∀ x, ∀ u ∈ cells x, u.oneCell' = true) {st : TypeId} {zero : Value} {bytes : Nat}
    (hinfo : (Tryz.prog.info? ty).map (fun i => (i.zero, i.size, i.bytes)) = some (some zero, z, bytes)) (hzs : zero.cells.size = z) (hst : Tryz.prog.underlying st = some (.slice ty)) (hby : bytes ≤ 200)
    {ops : Array Oper} {rest : List Oper} {o : Oper} {a : Act} {Q : Exit → Act → World → Prop} (hgd : o.guard = none) (s x : Operand) {w : World}
    (ho : o.op = .call { callee := .builtin .append, args := #[s, x], argTypes := #[st, st] })
    (B : Nat) (v : Value) (xs : List α) (hs : a.eval s = v) (hown : GOwns cells z ty w B v xs) (b bo c : Nat) (ys : List α) (hx : a.eval x = .slice (some ⟨b, bo, none⟩) ys.length c)
    (hy : GLie cells z w b bo ys) (hlen : xs.length + ys.length ≤ 100000000000) (hB : B ≤ w.heap.size)
    (h : ∀ v' w', GOwns cells z ty w' B v' (xs ++ ys) → w.grownBy w' v.ownBlock → wpList Tryz.prog ops Q rest (a.put o.dst v') w') : wpList Tryz.prog ops Q (o :: rest) a w := by
  obtain ⟨i0, hi, hz0, hz1, hz2⟩ := info_parts hinfo
  have hbb : (xs.length + ys.length) * bytes ≤ 140737488355328 := by
    have := Nat.mul_le_mul hlen hby; omega
  refine wpList_append_own w hgd s x st ho B ty i0 _ z bytes hst hi hz0 hz1 hz2 hzs hz v xs.length (xs.flatMap cells) hs hown
    ⟨b, bo, none⟩ ys.length c (ys.flatMap cells) hx (flat_len hl ys) (hy.news hz hl) ?_ (by unfold maxLen; omega) hbb hB ?_
  · intro u hu
    obtain ⟨x, _, hx⟩ := List.mem_flatMap.1 hu
    exact hone x u hx
  · intro v' w' h1 h2 _
    refine h v' w' ?_ h2
    unfold GOwns
    rw [List.length_append, List.flatMap_append]
    exact h1

/-- The form of the cells. -/
theorem innerC_form (x : Iv) : ∃ (f : Nat) (s : ByteArray) (b : Bool) (m : ByteArray) (k : Int), innerC x = #[.string ⟨#[]⟩, .float .f64 f, .string s, .slice none 0 0, .slice none 0 0, .bool b, .string m, .int .u8 k, .pointer none, .pointer none] := by
  unfold innerC
  split
  · exact ⟨_, _, _, _, _, rfl⟩
  · split
    · exact ⟨_, _, _, _, _, rfl⟩
    · split
      · exact ⟨_, _, _, _, _, rfl⟩
      · split
        · exact ⟨_, _, _, _, _, rfl⟩
        · exact ⟨_, _, _, _, _, rfl⟩

set_option maxHeartbeats 400000 in
theorem newMat_any (a : Option Addr) (n c : Nat) (w : World) : Calls Tryz.prog 123 #[.slice a n c] w (Gives w (.agg #[.string ⟨#[]⟩, .float .f64 0, .string ⟨#[]⟩, .slice none 0 0, .slice a n c, .bool false, .string ⟨#[]⟩, .int .u8 4, .pointer none, .pointer none])) := by
  go_enter Tryz.func123, Tryz.ntmps123
  go_wp2
  exact bodyPost_ret (v := .agg #[.string ⟨#[]⟩, .float .f64 0, .string ⟨#[]⟩, .slice none 0 0, .slice a n c, .bool false, .string ⟨#[]⟩, .int .u8 4, .pointer none, .pointer none]) (by simp [results, Tryz.results123, go_sem, *]) rfl ⟨rfl, (by repeat (first | with_reducible exact Below.refl _ _ | with_reducible assumption | ((with_reducible refine Below.setCell ?_ ?_ _); rotate_left; (simp; try omega)) | (with_reducible refine Ext.tr ?_ (by with_reducible assumption)) | (with_reducible refine Ext.al ?_ _) | (with_reducible refine below_drewN ?_ _) | (with_reducible refine Below.drew ?_)))⟩

/-- How an argument of the package lies. -/
def FaR (L H : Nat) (w : World) (p : Array Value × Vt Iv) : Prop :=
  match p.2 with
  | .sc x => p.1 = innerC x
  | .mat rows => rows ≠ [] ∧ rows.flatten.length ≤ 1000 ∧
      ∃ b c p1 p2, p.1 = #[.string ⟨#[]⟩, .float .f64 0, .string ⟨#[]⟩, .slice none 0 0, .slice (some ⟨b, 0, none⟩) rows.length c, .bool false, .string ⟨#[]⟩, .int .u8 4, ptr p1, ptr p2] ∧
        L ≤ b ∧ b < H ∧ L ≤ p1 ∧ p1 < H ∧ L ≤ p2 ∧ p2 < H ∧ MLie innerL 10 L H w b 0 rows ∧ w.cell? ⟨p1, 4, none⟩ = some (.int .i64 0) ∧ w.cell? ⟨p2, 4, none⟩ = some (.int .i64 1)

theorem faR_hangs : Hangs FaR := fun L H w w' p h hk => by
  obtain ⟨m, y⟩ := p
  cases y with
  | sc x => exact h
  | mat rows =>
    obtain ⟨h1, h2, b, c, p1, p2, h3, h4, h5, h6, h7, h8, h9, h10, h11, h12⟩ := h
    refine ⟨h1, h2, b, c, p1, p2, h3, h4, h5, h6, h7, h8, h9, h10.keep h4 h5 hk, ?_, ?_⟩
    · rw [World.cell?_of_block (a := ⟨p1, 4, none⟩) (hk p1 h6 h7)]; exact h11
    · rw [World.cell?_of_block (a := ⟨p2, 4, none⟩) (hk p2 h8 h9)]; exact h12

def RowF (row : List Iv) (wo wq : World) (v i : Value) : Prop :=
  ∃ j : Nat, j ≤ row.length ∧ i = .int .i64 j ∧ Ext wo wq ∧ GOwns innerL 10 64 wq wo.heap.size v (row.take j)

def TabF (rows : List (List Iv)) (B : Nat) (w0 wr : World) (v i : Value) : Prop :=
  ∃ k : Nat, k ≤ rows.length ∧ i = .int .i64 k ∧ Ext w0 wr ∧ MOwns innerL 10 59 wr B v (rows.take k)

set_option maxHeartbeats 6400000 in
theorem innerArg_mat (m : Im) (rows : List (List Iv)) (L H : Nat) (w : World) (hv : ViR L H w (m, .mat rows)) (hH : H ≤ w.heap.size) (hok : ∀ row ∈ rows, ∀ x ∈ row, IvOk x) :
    Calls Tryz.prog 44 #[m.val] w fun e w' => ∃ fa, e = .returned (.agg fa) ∧ FaR w.heap.size w'.heap.size w' (fa, .mat rows) ∧ Ext w w' := by
  obtain ⟨hrne0, hfl, gb0, gc0, hm, hb1, hb2, hml⟩ := hv
  have hm' : m = ⟨5, 0, ⟨#[]⟩, some ⟨gb0, 0, none⟩, rows.length, gc0⟩ := hm
  subst hm'
  have hrl : rows.length ≤ 1000 := Nat.le_trans (rows_le_flatten fun row hr => by
    obtain ⟨i, hi⟩ := List.getElem?_of_mem hr
    exact (hml i row hi).1) hfl
  have HML := Lib.hid hml; have HFL := Lib.hid hfl; have HOK := Lib.hid hok
  clear hml hfl hm hok
  go_enter Tryz.func44, Tryz.ntmps44
  go_wp2
  obtain ⟨w0, hw0⟩ : ∃ w0, (w.alloc (.cells #[.int .i64 5, .float .f64 0, .string ⟨#[]⟩, .slice (some ⟨gb0, 0, none⟩) rows.length gc0] 49)).alloc (.cells #[.string ⟨#[]⟩, .float .f64 0, .string ⟨#[]⟩, .slice none 0 0, .slice none 0 0, .bool false, .string ⟨#[]⟩, .int .u8 0, .pointer none, .pointer none] 64) = w0 := ⟨_, rfl⟩
  have hs0 : w0.heap.size = w.heap.size + 1 + 1 := by rw [← hw0]; simp
  have hx0 : Ext w w0 := by rw [← hw0]; exact ((Ext.rf w).al _).al _
  have HW0 := Lib.hid hw0; clear hw0
  go_loopw [3, 40] (fun v i wr => TabF rows w0.heap.size w0 wr v i) (fun _ i _ => rows.length - (intOf i).toNat)
  case atStart => exact ⟨0, Nat.zero_le _, rfl, by rw [HW0.out]; exact Ext.rf _, MOwns.nil _ _⟩
  case round =>
    obtain ⟨k, hk, rfl, hb, hown⟩ := hrel
    have HO := Lib.hid hown; clear hown
    by_cases hlt : k < rows.length
    · obtain ⟨row, Hr⟩ := elem_at hlt
      obtain ⟨hrne, gb, rc, hcell, _, _, hgl⟩ := HML.out k row Hr.out
      have hcw := (hx0.tr hb).get hcell
      simp only [Nat.zero_add] at hcw
      have hlen : row.length ≤ 1000 := Nat.le_trans (len_le_flatten (mem_at Hr)) HFL.out
      have HGL := Lib.hid hgl
      have hbw0 : Ext w wr := hx0.tr hb
      clear hcell hgl
      generalize wr = wo at *
      go_wp2
      go_loopw [6, 46] (fun v i wq => RowF row wo wq v i) (fun _ i _ => row.length - (intOf i).toNat)
      case atStart => exact ⟨0, Nat.zero_le _, rfl, Ext.rf _, GOwns.nil _ _⟩
      case round =>
        obtain ⟨j, hj, rfl, hbq, hoq⟩ := hrel
        have HOQ := Lib.hid hoq
        by_cases hjlt : j < row.length
        · obtain ⟨x, Hx⟩ := elem_at hjlt
          obtain ⟨c0, c1, c2, c3⟩ := LieI.head (HGL.out.ext (hbw0.tr hbq)) Hx.out
          have hbl := lt_of_cell c0
          obtain ⟨f, s, bb, mm, kk, he⟩ := innerC_form x
          have hic := fun w' => innerC_ok x w' (HOK.out row (mem_at Hr) x (mem_at Hx))
          rw [he] at hic
          have HIC := Lib.hid hic; have HE := Lib.hid he
          have hlq : (row.take j).length ≤ 1000 := by rw [List.length_take]; omega
          have hszq := hbq.size
          clear hic he hoq
          go_wp2_with fail
          refine (HIC.out _).mono ?_
          rintro e w2 ⟨rfl, hb2⟩
          have hsz2 := hb2.size
          simp only [World.size_alloc] at hsz2
          go_wp2_with (at_builtin; (refine gappend' (cells := innerL) (z := 10) (by decide) innerL_len innerL_one infoF rfl Tryz.underlying59 (by decide) rfl _ _ rfl wo.heap.size _ (row.take j) rfl (((HOQ.out.alloc _).ext hb2).alloc _) w2.heap.size 0 1 [x] rfl (glie_one (cells := innerL) (z := 10) w2 x _ _ (by unfold innerL; rw [HE.out])) (by simp only [List.length_singleton]; omega) (by simp; omega) ?_); intro v' w3 hown3 hg3)
          have hb3 : Ext wo w3 := Below.grown (((hbq.al _).tr hb2).al _) hg3 (by simp; omega) (fun q hq => HOQ.out.below q hq)
          have HO3 := Lib.hid hown3; clear hown3
          go_roundw
          case rel => exact ⟨j + 1, by omega, by go_num, hb3, by rw [take_succ_at Hx]; exact HO3.out⟩
          case measure => simp [intOf]; omega
        · have hfull : row.take j = row := List.take_of_length_le (by omega)
          rw [hfull] at hoq
          obtain ⟨g, cap, hv6, hg, hglie⟩ := GOwns.lie (cells := innerL) innerL_len hoq hrne
          have hgs := World.ownsRow.lt hoq
          subst hv6
          have hgl : g < wr.heap.size := (hgs g rfl).2
          have hwob := hb.size
          have hgv : u3.ownBlock ≠ some g := fun e => by have := HO.out.lt g e; omega
          have HG2 := Lib.hid hglie
          have hlt2 : (rows.take k).length ≤ 1000 := by rw [List.length_take]; omega
          clear hoq hglie hgs hfull
          go_wp2_with (at_builtin; (refine mappend infoSlF Tryz.underlying60 rfl _ _ rfl w0.heap.size _ (rows.take k) rfl ((HO.out.ext hbq).alloc _) wr.heap.size 0 1 row rfl g cap (by rw [World.cell?_alloc_at _ _ _ _ rfl]; rfl) (HG2.out.ext ((Ext.rf _).al _)) hrne (by omega) (by simp; omega) hgv (by omega) (by simp; omega) ?_); intro v' w3 hown3 hg3)
          have hb3 : Ext w0 w3 := Below.grown ((hb.tr hbq).al _) hg3 (by simp; omega) (fun q hq => HO.out.below q hq)
          have HO3 := Lib.hid hown3; clear hown3
          go_roundw
          case rel => exact ⟨k + 1, by omega, by go_num, hb3, by rw [take_succ_at Hr]; exact HO3.out⟩
          case measure => simp [intOf]; omega
    · have hfull : rows.take k = rows := List.take_of_length_le (by omega)
      have ho := HO.out
      rw [hfull] at ho
      obtain ⟨g, cap, hv3, hg, hgl, hmlg⟩ := ho.lie hrne0
      subst hv3
      have HMG := Lib.hid hmlg
      obtain ⟨row0, Hr0⟩ := elem_at (show 0 < rows.length by have := List.length_pos_iff.2 hrne0; omega)
      obtain ⟨_, g00, rc0, hcell0, _, _, _⟩ := hmlg 0 row0 Hr0.out
      simp only [Nat.zero_add] at hcell0
      have hrp : (0 : Int) < rows.length := by have := List.length_pos_iff.2 hrne0; omega
      have hres := fun o => hb.cell (p := ⟨w.heap.size + 1, o, none⟩) (by rw [hs0]; show w.heap.size + 1 < _; omega)
      have hresf := fun o => hb.frozen (p := ⟨w.heap.size + 1, o, none⟩) (by rw [hs0]; show w.heap.size + 1 < _; omega)
      rw [← HW0.out] at hres hresf
      have hqr : w.heap.size + 1 < wr.heap.size := by have := hb.size; omega
      clear ho hmlg hfull
      go_wp2_with fail
      refine (newMat_any _ _ _ _).mono ?_
      rintro e w1 ⟨rfl, hb1⟩
      (obtain ⟨hc1, hf1, hz1⟩ := ext_facts hb1; (try simp at hz1); (have hq1_0 : w.heap.size + 1 < w1.heap.size := by omega); (have hl1_0 : w.heap.size + 1 ≤ w1.heap.size := by omega); (have hr1_0 := fun o => hc1 (w.heap.size + 1) o (by first | omega | (simp; done) | (simp; omega))); (have hs1_0 := fun o => hf1 (w.heap.size + 1) o (by first | omega | (simp; done) | (simp; omega))); (try simp (disch := first | omega | (simp; omega)) only [World.cell?_alloc_past, World.cell?_drew] at hr1_0); (try simp (disch := first | omega | (simp; omega)) only [World.frozen?_alloc_past, World.frozen?_drew] at hs1_0); clear hc1 hf1)
      go_wp2_with fail
      refine (list_new _).mono ?_
      rintro e w2 ⟨rfl, hl2, hb2⟩
      (obtain ⟨hc2, hf2, hz2⟩ := ext_facts hb2; (try simp at hz2); (have hq2_0 : w.heap.size + 1 < w2.heap.size := by omega); (have hl2_0 : w.heap.size + 1 ≤ w2.heap.size := by omega); (have hr2_0 := fun o => hc2 (w.heap.size + 1) o (by first | omega | (simp; done) | (simp; omega))); (have hs2_0 := fun o => hf2 (w.heap.size + 1) o (by first | omega | (simp; done) | (simp; omega))); (try simp (disch := first | omega | (simp; omega)) only [World.cell?_alloc_past, World.cell?_drew] at hr2_0); (try simp (disch := first | omega | (simp; omega)) only [World.frozen?_alloc_past, World.frozen?_drew] at hs2_0); (have hq2_1 : w1.heap.size < w2.heap.size := by omega); (have hl2_1 : w1.heap.size ≤ w2.heap.size := by omega); (have hr2_1 := fun o => hc2 (w1.heap.size) o (by first | omega | (simp; done) | (simp; omega))); (have hs2_1 := fun o => hf2 (w1.heap.size) o (by first | omega | (simp; done) | (simp; omega))); (try simp (disch := first | omega | (simp; omega)) only [World.cell?_alloc_past, World.cell?_drew] at hr2_1); (try simp (disch := first | omega | (simp; omega)) only [World.frozen?_alloc_past, World.frozen?_drew] at hs2_1); clear hc2 hf2)
      have HL2 := Lib.hid hl2; clear hl2
      go_wp2_with fail
      refine (list_new _).mono ?_
      rintro e w3 ⟨rfl, hl3, hb3⟩
      (obtain ⟨hc3, hf3, hz3⟩ := ext_facts hb3; (try simp at hz3); (have hq3_0 : w.heap.size + 1 < w3.heap.size := by omega); (have hl3_0 : w.heap.size + 1 ≤ w3.heap.size := by omega); (have hr3_0 := fun o => hc3 (w.heap.size + 1) o (by first | omega | (simp; done) | (simp; omega))); (have hs3_0 := fun o => hf3 (w.heap.size + 1) o (by first | omega | (simp; done) | (simp; omega))); (try simp (disch := first | omega | (simp; omega)) only [World.cell?_alloc_past, World.cell?_drew] at hr3_0); (try simp (disch := first | omega | (simp; omega)) only [World.frozen?_alloc_past, World.frozen?_drew] at hs3_0); (have hq3_1 : w1.heap.size < w3.heap.size := by omega); (have hl3_1 : w1.heap.size ≤ w3.heap.size := by omega); (have hr3_1 := fun o => hc3 (w1.heap.size) o (by first | omega | (simp; done) | (simp; omega))); (have hs3_1 := fun o => hf3 (w1.heap.size) o (by first | omega | (simp; done) | (simp; omega))); (try simp (disch := first | omega | (simp; omega)) only [World.cell?_alloc_past, World.cell?_drew] at hr3_1); (try simp (disch := first | omega | (simp; omega)) only [World.frozen?_alloc_past, World.frozen?_drew] at hs3_1); clear hc3 hf3)
      have HL3 := Lib.hid hl3; clear hl3
      have hl2s : w1.heap.size + 1 < w2.heap.size := by have := block_lt_heap HL2.out.root; simpa using this
      have hl3s : w2.heap.size < w3.heap.size := block_lt_heap HL3.out.root
      have hcg : w3.cell? ⟨g, 0, none⟩ = some (.slice (some ⟨g00, 0, none⟩) row0.length rc0) := ((((Ext.rf wr).tr hb1).al _).tr hb2 |>.tr hb3).get hcell0
      have hgn : ¬ g = w1.heap.size := by have := hb1.size; omega
      have hpn : w2.heap.size ≠ w1.heap.size := by have := hb2.size; simp at this; omega
      have HP := Lib.hid (fun (w' : World) t v (h : w'.heap[w2.heap.size]? = w3.heap[w2.heap.size]?) => push_empty w' w2.heap.size t v ⟨by rw [h]; exact HL3.out.root, fun i n v h => by simp at h, by simp⟩)
      go_wp2_with fail
      go_region_law (first
        | (go_simp; go_at_call 43; (refine (HP.out _ _ _ (by show (World.setCell _ _ _).heap[_]? = _; rw [heap_setCell_ne hpn, heap_setCell_ne hpn])).mono ?_); rintro e w4 ⟨rfl, hl4, hk4⟩
           have hkb : ∀ q, q < w3.heap.size → q ≠ w2.heap.size → q ≠ w1.heap.size → w4.heap[q]? = w3.heap[q]? := fun q h1 h2 h3 => by
             rw [hk4.block q (by simpa [World.setCell] using h1) (by simpa using h2)]
             show (World.setCell _ _ _).heap[_]? = _
             rw [heap_setCell_ne h3, heap_setCell_ne h3]
           have hVc : ∀ o, w4.cell? ⟨w1.heap.size, o, none⟩ = ((w3.setCell ⟨w1.heap.size, 8, none⟩ (ptr (w1.heap.size + 1))).setCell ⟨w1.heap.size, 9, none⟩ (ptr w2.heap.size)).cell? ⟨w1.heap.size, o, none⟩ := fun o =>
             World.cell?_of_block (a := ⟨w1.heap.size, o, none⟩) (hk4.block w1.heap.size (by simp [World.setCell]; omega) (by simpa using Ne.symm hpn))
           have hRc : ∀ o, w4.cell? ⟨w.heap.size + 1, o, none⟩ = w3.cell? ⟨w.heap.size + 1, o, none⟩ := fun o => World.cell?_of_block (a := ⟨w.heap.size + 1, o, none⟩) (hkb (w.heap.size + 1) (by omega) (by omega) (by omega))
           have hRf : ∀ o, w4.frozen? ⟨w.heap.size + 1, o, none⟩ = w3.frozen? ⟨w.heap.size + 1, o, none⟩ := fun o => World.frozen?_of_block (a := ⟨w.heap.size + 1, o, none⟩) (hkb (w.heap.size + 1) (by omega) (by omega) (by omega))
           have HKB := Lib.hid hkb; have HL4 := Lib.hid hl4; have HK4 := Lib.hid hk4
           clear hkb hl4 hk4
           dsimp only))
      all_goals
        have hb1s := hb1.size
        have hb2s := hb2.size
        have hb3s := hb3.size
        simp only [World.size_alloc] at hb2s
        have hq4 : w.heap.size + 1 < w4.heap.size := by have := HK4.out.size; simp [World.setCell] at this; omega
        have hblk : ∀ q, w0.heap.size ≤ q → q < wr.heap.size → w4.heap[q]? = wr.heap[q]? := fun q h1 h2 => by
          rw [HKB.out q (by omega) (by omega) (by omega), hb3.block q (by omega), hb2.block q (by simp; omega), heap_alloc_old _ _ q (by omega), hb1.block q h2]
        have HBLK := Lib.hid hblk
        have hp1 : w4.cell? ⟨w1.heap.size + 1, 4, none⟩ = some (.int .i64 0) := by
          rw [World.cell?_of_block (a := ⟨w1.heap.size + 1, 4, none⟩) (HKB.out (w1.heap.size + 1) (by omega) (by omega) (by omega))]
          refine hb3.get ?_
          have hr := HL2.out.root
          rw [show (w1.alloc (.cells #[.string ⟨#[]⟩, .float .f64 0, .string ⟨#[]⟩, .slice none 0 0, .slice (some ⟨g, 0, none⟩) rows.length cap, .bool false, .string ⟨#[]⟩, .int .u8 4, .pointer none, .pointer none] 64)).heap.size = w1.heap.size + 1 by simp] at hr
          rw [cell_of_block hr]; rfl
        have hp2 : w4.cell? ⟨w2.heap.size, 4, none⟩ = some (.int .i64 1) := by
          rw [cell_of_block HL4.out.root]; rfl
        have HP1 := Lib.hid hp1; have HP2 := Lib.hid hp2
        clear hblk hp1 hp2
        have hw3 : Ext w w3 := ((((hx0.tr hb).tr hb1).al _).tr hb2).tr hb3
        have hw4 : Ext w w4 := HK4.out.ext (by repeat (first | with_reducible exact Below.refl _ _ | with_reducible assumption | ((with_reducible refine Below.setCell ?_ ?_ _); rotate_left; (simp; try omega)) | (with_reducible refine Ext.tr ?_ (by with_reducible assumption)) | (with_reducible refine Ext.al ?_ _) | (with_reducible refine below_drewN ?_ _) | (with_reducible refine Below.drew ?_))) (fun q hq => by
          have e : q = w2.heap.size := by simpa using hq
          omega)
        have he : ∀ (q : Nat), q ≠ w.heap.size + 1 → ∀ (x : World) (o : Nat) (v : Value), (x.setCell ⟨w.heap.size + 1, o, none⟩ v).heap[q]? = x.heap[q]? := fun q hq x o v => Below.heap_setCell _ _ _ _ hq
        have HEQ := Lib.hid he; have HW4 := Lib.hid hw4
        clear he hw4
        go_wp2
        refine bodyPost_ret (v := .agg #[.string ⟨#[]⟩, .float .f64 0, .string ⟨#[]⟩, .slice none 0 0, .slice (some ⟨g, 0, none⟩) rows.length cap, .bool false, .string ⟨#[]⟩, .int .u8 4, ptr (w1.heap.size + 1), ptr w2.heap.size]) (by simp [results, Tryz.results44, go_sem, *]) rfl ⟨_, rfl, ⟨hrne0, HFL.out, g, cap, w1.heap.size + 1, w2.heap.size, rfl, by omega, ?_, by omega, ?_, by omega, ?_, ?_, ?_, ?_⟩, ?_⟩
        · have h := HK4.out.size; simp [World.setCell] at h ⊢; omega
        · have h := HK4.out.size; simp [World.setCell] at h ⊢; omega
        · have h := HK4.out.size; simp [World.setCell] at h ⊢; omega
        · refine (HMG.out.keep (w' := _) hg hgl (fun q h1 h2 => ?_)).mono (by omega) ?_
          · have hq := HEQ.out q (by omega)
            rw [hq, hq, hq, hq, hq, hq, hq, hq, hq, hq]
            exact HBLK.out q h1 h2
          · have h := HK4.out.size; simp [World.setCell] at h ⊢; omega
        · have hq := HEQ.out (w1.heap.size + 1) (by omega)
          rw [World.cell?_of_block (a := ⟨w1.heap.size + 1, 4, none⟩) (w := w4) (by rw [hq, hq, hq, hq, hq, hq, hq, hq, hq, hq])]
          exact HP1.out
        · have hq := HEQ.out w2.heap.size (by omega)
          rw [World.cell?_of_block (a := ⟨w2.heap.size, 4, none⟩) (w := w4) (by rw [hq, hq, hq, hq, hq, hq, hq, hq, hq, hq])]
          exact HP2.out
        · have h4 := HW4.out
          repeat (first | with_reducible exact Below.refl _ _ | with_reducible assumption | ((with_reducible refine Below.setCell ?_ ?_ _); rotate_left; (simp; try omega)) | (with_reducible refine Ext.tr ?_ (by with_reducible assumption)) | (with_reducible refine Ext.al ?_ _) | (with_reducible refine below_drewN ?_ _) | (with_reducible refine Below.drew ?_))
end Go.Proofs.YtpcfmkongpmmmaaGreatDoor
