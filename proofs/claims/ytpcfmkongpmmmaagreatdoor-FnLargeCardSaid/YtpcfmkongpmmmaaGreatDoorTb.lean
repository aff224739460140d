/-
  The laws' tables: zzFits1, table.
-/
import Derived.Test.YtpcfmkongpmmmaaGreatDoorItm
import Derived.Test.YtpcfmkongpmmmaaGreatDoorMe
namespace Go.Proofs.YtpcfmkongpmmmaaGreatDoor
set_option linter.unusedSimpArgs false
set_option linter.unusedVariables false
open Go Go.RowKit
set_option maxRecDepth 100000

/-- The cells of a law that came in. -/
def ItAt (w : World) (a : Option Addr) (xs : List It) : Prop :=
  ∀ i x, xs[i]? = some x → x.ok ∧ ∃ b o, a = some ⟨b, o, none⟩ ∧ w.cell? ⟨b, o + i * 3, none⟩ = some (.int .i64 x.k) ∧ w.cell? ⟨b, o + i * 3 + 1, none⟩ = some (.int .i64 x.n) ∧ w.cell? ⟨b, o + i * 3 + 2, none⟩ = some (.string x.t)

theorem ItAt.ext {w w' : World} {a : Option Addr} {xs : List It} (h : ItAt w a xs) (hb : Ext w w') : ItAt w' a xs := fun i x hx => by
  obtain ⟨h0, b, o, h1, h2, h3, h4⟩ := h i x hx
  exact ⟨h0, b, o, h1, hb.get h2, hb.get h3, hb.get h4⟩

theorem ItAt.take {w : World} {a : Option Addr} {xs : List It} (h : ItAt w a xs) (n : Nat) : ItAt w a (xs.take n) := fun i x hx => by
  rw [List.getElem?_take] at hx
  split at hx
  · exact h i x hx
  · cases hx

/-- A truth comes back. -/
def SomeB (w : World) (e : Ending) (w' : World) : Prop := ∃ r : Bool, e = .returned (.bool r) ∧ Ext w w'

set_option maxHeartbeats 400000 in
theorem zzFits2_ok (k n : Int) (t : ByteArray) (w : World) : Calls Tryz.prog 9 #[.agg #[.int .i64 k, .int .i64 n, .string t]] w (SomeB w) := by
  by_cases h : (2147483647 : Int) < (t.size : Int)
  · go_enter Tryz.func9, Tryz.ntmps9
    go_wp2
    exact bodyPost_ret (v := .bool false) (by simp [results, Tryz.results9, go_sem, *]) rfl ⟨false, rfl, (by repeat (first | with_reducible exact Below.refl _ _ | with_reducible assumption | ((with_reducible refine Below.setCell ?_ ?_ _); rotate_left; (simp; try omega)) | (with_reducible refine Ext.tr ?_ (by with_reducible assumption)) | (with_reducible refine Ext.al ?_ _) | (with_reducible refine below_drewN ?_ _) | (with_reducible refine Below.drew ?_)))⟩
  · go_enter Tryz.func9, Tryz.ntmps9
    go_wp2
    exact bodyPost_ret (v := .bool true) (by simp [results, Tryz.results9, go_sem, *]) rfl ⟨true, rfl, (by repeat (first | with_reducible exact Below.refl _ _ | with_reducible assumption | ((with_reducible refine Below.setCell ?_ ?_ _); rotate_left; (simp; try omega)) | (with_reducible refine Ext.tr ?_ (by with_reducible assumption)) | (with_reducible refine Ext.al ?_ _) | (with_reducible refine below_drewN ?_ _) | (with_reducible refine Below.drew ?_)))⟩

set_option maxHeartbeats 1600000 in
theorem zzFits1_ok (xs : List It) (a : Option Addr) (c : Nat) (w : World) (hx : ItAt w a xs) (hl : xs.length ≤ maxLen) :
    Calls Tryz.prog 4 #[.slice a xs.length c] w (SomeB w) := by
  have HX := Lib.hid hx; clear hx
  have hl' : xs.length ≤ 9223372036854775807 := hl
  by_cases hbig : (2147483647 : Int) < (xs.length : Int)
  · go_enter Tryz.func4, Tryz.ntmps4
    go_wp2
    exact bodyPost_ret (v := .bool false) (by simp [results, Tryz.results4, go_sem, *]) rfl ⟨false, rfl, (by repeat (first | with_reducible exact Below.refl _ _ | with_reducible assumption | ((with_reducible refine Below.setCell ?_ ?_ _); rotate_left; (simp; try omega)) | (with_reducible refine Ext.tr ?_ (by with_reducible assumption)) | (with_reducible refine Ext.al ?_ _) | (with_reducible refine below_drewN ?_ _) | (with_reducible refine Below.drew ?_)))⟩
  · go_enter Tryz.func4, Tryz.ntmps4
    go_wp2
    go_loopw [10] (fun i wr => ∃ k : Nat, k ≤ xs.length ∧ i = .int .i64 k ∧ Ext w wr) (fun i _ => xs.length - (intOf i).toNat)
    case atStart => exact ⟨0, Nat.zero_le _, rfl, Ext.rf _⟩
    case round =>
      obtain ⟨k, hk, rfl, hb⟩ := hrel
      by_cases hlt : k < xs.length
      · obtain ⟨x, Hx⟩ := elem_at hlt
        obtain ⟨_, b, o, rfl, c0, c1, c2⟩ := (HX.out.ext hb) k x Hx.out
        go_wp2_with fail
        refine (zzFits2_ok _ _ _ _).mono ?_
        rintro e w1 ⟨r, rfl, hb1⟩
        cases r
        · go_wp2
          exact bodyPost_ret (v := .bool false) (by simp [results, Tryz.results4, go_sem, *]) rfl ⟨false, rfl, (by repeat (first | with_reducible exact Below.refl _ _ | with_reducible assumption | ((with_reducible refine Below.setCell ?_ ?_ _); rotate_left; (simp; try omega)) | (with_reducible refine Ext.tr ?_ (by with_reducible assumption)) | (with_reducible refine Ext.al ?_ _) | (with_reducible refine below_drewN ?_ _) | (with_reducible refine Below.drew ?_)))⟩
        · go_wp2
          go_roundw
          case rel => exact ⟨k + 1, by omega, by go_num, (by repeat (first | with_reducible exact Below.refl _ _ | with_reducible assumption | ((with_reducible refine Below.setCell ?_ ?_ _); rotate_left; (simp; try omega)) | (with_reducible refine Ext.tr ?_ (by with_reducible assumption)) | (with_reducible refine Ext.al ?_ _) | (with_reducible refine below_drewN ?_ _) | (with_reducible refine Below.drew ?_)))⟩
          case measure => simp [intOf]; omega
      · go_wp2
        exact bodyPost_ret (v := .bool true) (by simp [results, Tryz.results4, go_sem, *]) rfl ⟨true, rfl, hb⟩

theorem infoSlV : (Tryz.prog.info? 31).map (fun i => (i.zero, i.size, i.bytes)) = some (some (.slice none 0 0), 1, 24) := by kernel_rfl

theorem Owns.setOther {w : World} {B : Nat} {v : Value} {xs : List Sc} (h : Owns w B v xs) {a : Addr} (ha : v.ownBlock ≠ some a.block) (u : Value) : Owns (w.setCell a u) B v xs := by
  refine World.ownsRow.kept (row := some a.block) h ⟨rfl, rfl, rfl, by simp [World.setCell], fun k _ hk => ?_⟩ (Or.inr ha)
  exact Below.heap_setCell _ _ _ _ (fun e => hk (by rw [e]))

theorem flatten_le {α : Type} {rows : List (List α)} {c : Nat} (h : ∀ row ∈ rows, row.length ≤ c) : rows.flatten.length ≤ rows.length * c := by
  induction rows with
  | nil => simp
  | cons r rs ih =>
    rw [List.flatten_cons, List.length_append, List.length_cons, Nat.succ_mul]
    have h1 := ih fun row hr => h row (List.mem_cons_of_mem _ hr)
    have h2 := h r (List.mem_cons_self ..)
    omega

/-- The rows of a law's table. -/
def TabOk (rows : List (List Sc)) : Prop := ∃ C, 1 ≤ C ∧ C ≤ 6 ∧ rows ≠ [] ∧ rows.length ≤ 120 ∧ (∀ row ∈ rows, row.length = C) ∧ ∀ row ∈ rows, ∀ x ∈ row, ItemSc x

/-- A row of a table on its way. -/
def RowSt (C : Nat) (wo wq : World) (v i : Value) : Prop :=
  ∃ (j : Nat) (row : List Sc), j ≤ 1 + C ∧ i = .int .i64 j ∧ Ext wo wq ∧ Owns wq wo.heap.size v row ∧ row.length = j ∧ ∀ x ∈ row, ItemSc x

/-- A table on its way. -/
def TabSt (R C B : Nat) (w1 wr : World) (v i : Value) : Prop :=
  ∃ (k : Nat) (rows : List (List Sc)), k ≤ R ∧ i = .int .i64 k ∧ Ext w1 wr ∧ MOwns Sc.cells 5 31 wr B v rows ∧ rows.length = k ∧ (∀ row ∈ rows, row.length = 1 + C) ∧ ∀ row ∈ rows, ∀ x ∈ row, ItemSc x

set_option maxHeartbeats 6400000 in
theorem table_ok (xs : List It) (a : Option Addr) (c : Nat) (cols : Int) (w : World) (hx : ItAt w a xs) (hl : xs.length ≤ 120) :
    Calls Tryz.prog 7 #[.slice a xs.length c, .int .i64 cols] w fun e w' => ∃ m rows, e = .returned (Mc.val m) ∧ VtR (w.heap.size + 1) w'.heap.size w' (m, .mat rows) ∧ TabOk rows ∧ Ext w w' := by
  have HX := Lib.hid hx; clear hx
  have hp := fun w' => part_six cols w'
  obtain ⟨C, hC, hC5⟩ : ∃ C : Nat, cols % 6 = C ∧ C ≤ 5 := ⟨(cols % 6).toNat, by omega, by omega⟩
  rw [hC] at hp
  have HP := Lib.hid hp; clear hp hC
  have hdiv : (xs.length : Int).tdiv (1 + C) = ((xs.length / (1 + C) : Nat) : Int) := by
    rw [show (1 + (C : Int)) = ((1 + C : Nat) : Int) by omega]; rfl
  have hR : xs.length / (1 + C) ≤ 120 := Nat.le_trans (Nat.div_le_self _ _) hl
  have hRz : xs.length = 0 → xs.length / (1 + C) = 0 := fun h => by rw [h]; exact Nat.zero_div _
  generalize xs.length / (1 + C) = R0 at hdiv hR hRz
  have hc1 : ¬ (1 + (C : Int) = 0) := by omega
  have hcases : xs.length = 0 ∨ (xs.length ≠ 0 ∧ R0 = 0) ∨ (xs.length ≠ 0 ∧ 1 ≤ R0) := by omega
  rcases hcases with hx0 | ⟨hx0, hR0⟩ | ⟨hx0, hR0⟩
  · have hR0 : R0 = 0 := hRz hx0
    subst hR0
    go_enter Tryz.func7, Tryz.ntmps7
    (go_wp2_with fail; refine (HP.out _).mono ?_; rintro e w1 ⟨rfl, hb1⟩; obtain ⟨hc1, hf1, hz1⟩ := ext_facts hb1; (try simp at hz1); (have hq1_0 : w.heap.size < w1.heap.size := by omega); (have hl1_0 : w.heap.size ≤ w1.heap.size := by omega); (have hr1_0 := fun o => hc1 (w.heap.size) o (by first | omega | (simp; done) | (simp; omega))); (have hs1_0 := fun o => hf1 (w.heap.size) o (by first | omega | (simp; done) | (simp; omega))); (try simp (disch := first | omega | (simp; omega)) only [World.cell?_alloc_past, World.cell?_drew] at hr1_0); (try simp (disch := first | omega | (simp; omega)) only [World.frozen?_alloc_past, World.frozen?_drew] at hs1_0); clear hc1 hf1)
    have hb1w : Ext w w1 := ((Ext.rf w).al _).tr hb1
    go_wp2
    go_loopw [6, 7] (fun v i wr => TabSt 1 C w1.heap.size w1 wr v i) (fun _ i _ => (1 : Nat) - (intOf i).toNat)
    case atStart => exact ⟨0, [], Nat.zero_le _, rfl, Ext.rf _, MOwns.nil _ _, rfl, by simp, by simp⟩
    case round =>
      obtain ⟨k, rows, hk, rfl, hb, hown, hrl, hrc, hri⟩ := hrel
      have HO := Lib.hid hown; clear hown
      have HRC := Lib.hid hrc; clear hrc
      have HRI := Lib.hid hri; clear hri
      have HRL := Lib.hid hrl; clear hrl
      have hbw := hb1w.tr hb
      by_cases hlt : k < 1
      · generalize wr = wo at *
        have hk120 : k ≤ 119 := by omega
        have hltI : (k : Int) < 1 := by omega
        have hprod : k * (1 + C) ≤ 714 := Nat.mul_le_mul hk120 (show 1 + C ≤ 6 by omega)
        have hpr : (k : Int) * (1 + (C : Int)) = ((k * (1 + C) : Nat) : Int) := by push_cast; rfl
        generalize k * (1 + C) = q0 at hprod hpr
        go_wp2
        go_loopw [8, 9] (fun v i wq => RowSt C wo wq v i) (fun _ i _ => (1 + C) - (intOf i).toNat)
        case atStart => exact ⟨0, [], Nat.zero_le _, rfl, Ext.rf _, Owns.nil _ _, rfl, by simp⟩
        case round =>
          obtain ⟨j, row, hj, rfl, hbq, hoq, hrl, hri⟩ := hrel
          have HOQ := Lib.hid hoq
          have HRI2 := Lib.hid hri; clear hri
          have HRL2 := Lib.hid hrl
          have hszq := hbq.size
          by_cases hjlt : j < 1 + C
          · by_cases hidx : q0 + j < xs.length
            · exact absurd hidx (by omega)
            · have hidx' : ¬ ((q0 : Int) + (j : Int) < (xs.length : Int)) := by omega
              clear hoq hrl
              go_wp2_with (at_builtin; (refine append_vals rfl _ _ rfl wo.heap.size _ row rfl ((HOQ.out.alloc _).alloc _) (wr.heap.size + 1) 0 1 [⟨0, 0, 0, ⟨#[]⟩⟩] rfl (lie_oneAt _ _ (by simp) ⟨0, 0, 0, ⟨#[]⟩⟩) (by have := HRL2.out; simp only [List.length_singleton]; omega) (by simp; omega) ?_); intro v' w3 hown3 hg3)
              have hb3 : Ext wo w3 := Below.grown ((hbq.al _).al _) hg3 (by simp; omega) (fun q hq => HOQ.out.below q hq)
              have HO3 := Lib.hid hown3
              clear hown3
              go_roundw
              case rel => exact ⟨j + 1, row ++ [⟨0, 0, 0, ⟨#[]⟩⟩], by omega, by go_num, hb3, HO3.out, by rw [List.length_append, HRL2.out]; rfl, fun z hz => by
                rcases List.mem_append.1 hz with h | h
                · exact HRI2.out z h
                · have e : z = ⟨0, 0, 0, ⟨#[]⟩⟩ := by simpa using h
                  subst e; exact Or.inl rfl⟩
              case measure => simp [intOf]; omega
          · have hrl6 : row.length = 1 + C := by omega
            have hrne : row ≠ [] := by intro h0; rw [h0] at hrl6; simp at hrl6; omega
            obtain ⟨g, cap, hv8, hg, hglie⟩ := GOwns.lie (cells := Sc.cells) Sc.cells_len hoq hrne
            subst hv8
            have hwo := hbw.size
            have hw1 := hb1w.size
            have hwo1 := hb.size
            have hgl : g < wr.heap.size := (World.ownsRow.lt hoq g rfl).2
            have hgv : u6.ownBlock ≠ some g := fun e => by have := HO.out.lt g e; omega
            have hlen := HRL.out
            have HGL := Lib.hid hglie
            have hb0 : w.heap.size + 1 ≤ w1.heap.size := by have := hb1.size; simpa using this
            clear hglie hoq hrl
            go_wp2_with (at_builtin; (refine mappend infoSlV Tryz.underlying26 rfl _ _ rfl w1.heap.size _ rows rfl ((HO.out.ext hbq).alloc _) wr.heap.size 0 1 row rfl g cap (by rw [World.cell?_alloc_at _ _ _ _ rfl, hrl6]; rfl) (HGL.out.ext ((Ext.rf _).al _)) hrne (by omega) (by simp; omega) hgv (by omega) (by simp; omega) ?_); intro v' w3 hown3 hg3)
            have hb3 : Ext w1 w3 := Below.grown ((hb.tr hbq).al _) hg3 (by simp; omega) (fun q hq => HO.out.below q hq)
            have HO3 := Lib.hid hown3
            clear hown3
            go_roundw
            case rel => exact ⟨k + 1, rows ++ [row], by omega, by go_num, hb3, HO3.out, by rw [List.length_append, HRL.out]; rfl, fun r hr => by
              rcases List.mem_append.1 hr with h | h
              · exact HRC.out r h
              · have e : r = row := by simpa using h
                subst e; exact hrl6, fun r hr => by
              rcases List.mem_append.1 hr with h | h
              · exact HRI.out r h
              · have e : r = row := by simpa using h
                subst e; exact HRI2.out⟩
            case measure => simp [intOf]; omega
      · have hRne : rows ≠ [] := by
          have := HRL.out
          intro h0; rw [h0] at this; simp at this; omega
        have hlen := HRL.out
        obtain ⟨g, cap, hv6, hg, hgl, hml⟩ := HO.out.lie hRne
        subst hv6
        have HML := Lib.hid hml; clear hml
        have hwr := hb.size
        go_wp2_with fail
        refine (table_any _ _ _ _).mono ?_
        rintro e w2 ⟨rfl, hb2⟩
        have hr0 := fun o => hb.cell (p := ⟨w.heap.size, o, none⟩) (by omega)
        have hs0 := fun o => hb.frozen (p := ⟨w.heap.size, o, none⟩) (by omega)
        have hqr : w.heap.size < wr.heap.size := by omega
        (obtain ⟨hc2, hf2, hz2⟩ := ext_facts hb2; (try simp at hz2); (have hq2_0 : w.heap.size < w2.heap.size := by omega); (have hl2_0 : w.heap.size ≤ w2.heap.size := by omega); (have hr2_0 := fun o => hc2 (w.heap.size) o (by first | omega | (simp; done) | (simp; omega))); (have hs2_0 := fun o => hf2 (w.heap.size) o (by first | omega | (simp; done) | (simp; omega))); (try simp (disch := first | omega | (simp; omega)) only [World.cell?_alloc_past, World.cell?_drew] at hr2_0); (try simp (disch := first | omega | (simp; omega)) only [World.frozen?_alloc_past, World.frozen?_drew] at hs2_0); clear hc2 hf2)
        have htab : TabOk rows := ⟨1 + C, by omega, by omega, hRne, by omega, HRC.out, HRI.out⟩
        have hfl : rows.flatten.length ≤ 1000 := by
          have h1 := flatten_le (rows := rows) (c := 6) (fun r hr => by rw [HRC.out r hr]; omega)
          omega
        have HT := Lib.hid htab; clear htab
        have hwt : Ext w w2 := (hb1w.tr hb).tr hb2
        have hg0 : w.heap.size + 1 ≤ g := by have := hb1.size; simp at this; omega
        have hml2 : MLie Sc.cells 5 (w.heap.size + 1) w2.heap.size w2 g 0 rows := (HML.out.mono (by have := hb1.size; simp at this; omega) hb2.size).ext hb2
        have HM2 := Lib.hid hml2; clear hml2
        have hgl2 : g < w2.heap.size := by have := hb2.size; omega
        go_wp2
        refine bodyPost_ret (v := Mc.val ⟨5, 0, 0, ⟨#[]⟩, some ⟨g, 0, none⟩, k, cap⟩) (by simp [results, Tryz.results7, go_sem, *]) rfl ⟨⟨5, 0, 0, ⟨#[]⟩, some ⟨g, 0, none⟩, k, cap⟩, rows, rfl, ⟨hRne, hfl, fun r hr x hx => (HRI.out r hr x hx).k5, g, cap, by rw [HRL.out], hg0, by simpa using hgl2, ?_⟩, HT.out, (by repeat (first | with_reducible exact Below.refl _ _ | with_reducible assumption | ((with_reducible refine Below.setCell ?_ ?_ _); rotate_left; (simp; try omega)) | (with_reducible refine Ext.tr ?_ (by with_reducible assumption)) | (with_reducible refine Ext.al ?_ _) | (with_reducible refine below_drewN ?_ _) | (with_reducible refine Below.drew ?_)))⟩
        refine (HM2.out.mono (Nat.le_refl _) (by simp)).keep hg0 (by simpa using hgl2) (fun q hq _ => ?_)
        have hqn : q ≠ w.heap.size := by omega
        rw [heap_setCell_ne hqn, heap_setCell_ne hqn, heap_setCell_ne hqn, heap_setCell_ne hqn, heap_setCell_ne hqn]
  · obtain ⟨x0, hx0'⟩ := elem_at (show 0 < xs.length by omega)
    obtain ⟨_, b, o, rfl, _⟩ := HX.out 0 x0 hx0'.out
    subst hR0
    clear hRz hx0'
    go_enter Tryz.func7, Tryz.ntmps7
    (go_wp2_with fail; refine (HP.out _).mono ?_; rintro e w1 ⟨rfl, hb1⟩; obtain ⟨hc1, hf1, hz1⟩ := ext_facts hb1; (try simp at hz1); (have hq1_0 : w.heap.size < w1.heap.size := by omega); (have hl1_0 : w.heap.size ≤ w1.heap.size := by omega); (have hr1_0 := fun o => hc1 (w.heap.size) o (by first | omega | (simp; done) | (simp; omega))); (have hs1_0 := fun o => hf1 (w.heap.size) o (by first | omega | (simp; done) | (simp; omega))); (try simp (disch := first | omega | (simp; omega)) only [World.cell?_alloc_past, World.cell?_drew] at hr1_0); (try simp (disch := first | omega | (simp; omega)) only [World.frozen?_alloc_past, World.frozen?_drew] at hs1_0); clear hc1 hf1)
    have hb1w : Ext w w1 := ((Ext.rf w).al _).tr hb1
    go_wp2
    go_loopw [6, 7] (fun v i wr => TabSt 1 C w1.heap.size w1 wr v i) (fun _ i _ => (1 : Nat) - (intOf i).toNat)
    case atStart => exact ⟨0, [], Nat.zero_le _, rfl, Ext.rf _, MOwns.nil _ _, rfl, by simp, by simp⟩
    case round =>
      obtain ⟨k, rows, hk, rfl, hb, hown, hrl, hrc, hri⟩ := hrel
      have HO := Lib.hid hown; clear hown
      have HRC := Lib.hid hrc; clear hrc
      have HRI := Lib.hid hri; clear hri
      have HRL := Lib.hid hrl; clear hrl
      have hbw := hb1w.tr hb
      by_cases hlt : k < 1
      · generalize wr = wo at *
        have hk120 : k ≤ 119 := by omega
        have hltI : (k : Int) < 1 := by omega
        have hprod : k * (1 + C) ≤ 714 := Nat.mul_le_mul hk120 (show 1 + C ≤ 6 by omega)
        have hpr : (k : Int) * (1 + (C : Int)) = ((k * (1 + C) : Nat) : Int) := by push_cast; rfl
        generalize k * (1 + C) = q0 at hprod hpr
        go_wp2
        go_loopw [8, 9] (fun v i wq => RowSt C wo wq v i) (fun _ i _ => (1 + C) - (intOf i).toNat)
        case atStart => exact ⟨0, [], Nat.zero_le _, rfl, Ext.rf _, Owns.nil _ _, rfl, by simp⟩
        case round =>
          obtain ⟨j, row, hj, rfl, hbq, hoq, hrl, hri⟩ := hrel
          have HOQ := Lib.hid hoq
          have HRI2 := Lib.hid hri; clear hri
          have HRL2 := Lib.hid hrl
          have hszq := hbq.size
          by_cases hjlt : j < 1 + C
          · by_cases hidx : q0 + j < xs.length
            · obtain ⟨x, Hx⟩ := elem_at hidx
              obtain ⟨hxok, b1, o1, he, c0, c1, c2⟩ := (HX.out.ext (hbw.tr hbq)) (q0 + j) x Hx.out
              simp only [Option.some.injEq, Addr.mk.injEq, and_true] at he
              obtain ⟨he1, he2⟩ := he
              rw [← he1, ← he2] at c0 c1 c2
              clear he1 he2
              have hbl := lt_of_cell c0
              have HIV := Lib.hid (fun w' => itemVal_ok x w' hxok)
              have hown1 : ∀ q, u8.ownBlock = some q → q < wr.heap.size := fun q hq => (World.ownsRow.lt hoq q hq).2
              clear hoq hrl
              go_wp2_with fail
              refine (HIV.out _).mono ?_
              rintro e w2 ⟨y, rfl, hy, hb2⟩
              have HY := Lib.hid hy; clear hy
              (obtain ⟨hc2, hf2, hz2⟩ := ext_facts hb2; (try simp at hz2); (have hq2_0 : wr.heap.size < w2.heap.size := by omega); (have hl2_0 : wr.heap.size ≤ w2.heap.size := by omega); (have hr2_0 := fun o => hc2 (wr.heap.size) o (by first | omega | (simp; done) | (simp; omega))); (have hs2_0 := fun o => hf2 (wr.heap.size) o (by first | omega | (simp; done) | (simp; omega))); (try simp (disch := first | omega | (simp; omega)) only [World.cell?_alloc_past, World.cell?_drew] at hr2_0); (try simp (disch := first | omega | (simp; omega)) only [World.frozen?_alloc_past, World.frozen?_drew] at hs2_0); clear hc2 hf2)
              obtain ⟨yk, yn, yd, yt⟩ := y
              have hnb : u8.ownBlock ≠ some wr.heap.size := fun e => by have := hown1 _ e; omega
              have HO1 := Lib.hid (fun (o1 : Obj) => (((((((HOQ.out.alloc (.cells #[.int .i64 0, .int .i64 0, .int .i64 0, .string ⟨#[]⟩, .slice none 0 0] 28)).ext hb2).setOther (a := ⟨wr.heap.size, 0, none⟩) hnb (.int .i64 yk)).setOther (a := ⟨wr.heap.size, 1, none⟩) hnb (.int .i64 yn)).setOther (a := ⟨wr.heap.size, 2, none⟩) hnb (.int .i64 yd)).setOther (a := ⟨wr.heap.size, 3, none⟩) hnb (.string yt)).setOther (a := ⟨wr.heap.size, 4, none⟩) hnb (.slice none 0 0)).alloc o1)
              go_wp2_with (at_builtin; (refine append_vals rfl _ _ rfl wo.heap.size _ row rfl (HO1.out _) w2.heap.size 0 1 [⟨yk, yn, yd, yt⟩] rfl (lie_oneAt _ _ (by simp) ⟨yk, yn, yd, yt⟩) (by have := HRL2.out; simp only [List.length_singleton]; omega) (by simp; omega) ?_); intro v' w3 hown3 hg3)
              have hbx : Ext wo (w2.alloc (.cells #[.int .i64 yk, .int .i64 yn, .int .i64 yd, .string yt, .slice none 0 0] 28)) := (((hbq.al _).tr hb2).al _)
              have hb3 : Ext wo w3 := by
                refine Below.grown ?_ hg3 (by simp; omega) (fun q hq => HOQ.out.below q hq)
                have hb2a := (hbq.al (.cells #[.int .i64 0, .int .i64 0, .int .i64 0, .string ⟨#[]⟩, .slice none 0 0] 28)).tr hb2
                repeat (first | with_reducible exact Below.refl _ _ | with_reducible assumption | ((with_reducible refine Below.setCell ?_ ?_ _); rotate_left; (simp; try omega)) | (with_reducible refine Ext.tr ?_ (by with_reducible assumption)) | (with_reducible refine Ext.al ?_ _) | (with_reducible refine below_drewN ?_ _) | (with_reducible refine Below.drew ?_))
              have HO3 := Lib.hid hown3
              clear hown3 hbx
              go_roundw
              case rel => exact ⟨j + 1, row ++ [⟨yk, yn, yd, yt⟩], by omega, by go_num, hb3, HO3.out, by rw [List.length_append, HRL2.out]; rfl, fun z hz => by
                rcases List.mem_append.1 hz with h | h
                · exact HRI2.out z h
                · have e : z = ⟨yk, yn, yd, yt⟩ := by simpa using h
                  subst e; exact HY.out⟩
              case measure => simp [intOf]; omega
            · have hidx' : ¬ ((q0 : Int) + (j : Int) < (xs.length : Int)) := by omega
              clear hoq hrl
              go_wp2_with (at_builtin; (refine append_vals rfl _ _ rfl wo.heap.size _ row rfl ((HOQ.out.alloc _).alloc _) (wr.heap.size + 1) 0 1 [⟨0, 0, 0, ⟨#[]⟩⟩] rfl (lie_oneAt _ _ (by simp) ⟨0, 0, 0, ⟨#[]⟩⟩) (by have := HRL2.out; simp only [List.length_singleton]; omega) (by simp; omega) ?_); intro v' w3 hown3 hg3)
              have hb3 : Ext wo w3 := Below.grown ((hbq.al _).al _) hg3 (by simp; omega) (fun q hq => HOQ.out.below q hq)
              have HO3 := Lib.hid hown3
              clear hown3
              go_roundw
              case rel => exact ⟨j + 1, row ++ [⟨0, 0, 0, ⟨#[]⟩⟩], by omega, by go_num, hb3, HO3.out, by rw [List.length_append, HRL2.out]; rfl, fun z hz => by
                rcases List.mem_append.1 hz with h | h
                · exact HRI2.out z h
                · have e : z = ⟨0, 0, 0, ⟨#[]⟩⟩ := by simpa using h
                  subst e; exact Or.inl rfl⟩
              case measure => simp [intOf]; omega
          · have hrl6 : row.length = 1 + C := by omega
            have hrne : row ≠ [] := by intro h0; rw [h0] at hrl6; simp at hrl6; omega
            obtain ⟨g, cap, hv8, hg, hglie⟩ := GOwns.lie (cells := Sc.cells) Sc.cells_len hoq hrne
            subst hv8
            have hwo := hbw.size
            have hw1 := hb1w.size
            have hwo1 := hb.size
            have hgl : g < wr.heap.size := (World.ownsRow.lt hoq g rfl).2
            have hgv : u6.ownBlock ≠ some g := fun e => by have := HO.out.lt g e; omega
            have hlen := HRL.out
            have HGL := Lib.hid hglie
            have hb0 : w.heap.size + 1 ≤ w1.heap.size := by have := hb1.size; simpa using this
            clear hglie hoq hrl
            go_wp2_with (at_builtin; (refine mappend infoSlV Tryz.underlying26 rfl _ _ rfl w1.heap.size _ rows rfl ((HO.out.ext hbq).alloc _) wr.heap.size 0 1 row rfl g cap (by rw [World.cell?_alloc_at _ _ _ _ rfl, hrl6]; rfl) (HGL.out.ext ((Ext.rf _).al _)) hrne (by omega) (by simp; omega) hgv (by omega) (by simp; omega) ?_); intro v' w3 hown3 hg3)
            have hb3 : Ext w1 w3 := Below.grown ((hb.tr hbq).al _) hg3 (by simp; omega) (fun q hq => HO.out.below q hq)
            have HO3 := Lib.hid hown3
            clear hown3
            go_roundw
            case rel => exact ⟨k + 1, rows ++ [row], by omega, by go_num, hb3, HO3.out, by rw [List.length_append, HRL.out]; rfl, fun r hr => by
              rcases List.mem_append.1 hr with h | h
              · exact HRC.out r h
              · have e : r = row := by simpa using h
                subst e; exact hrl6, fun r hr => by
              rcases List.mem_append.1 hr with h | h
              · exact HRI.out r h
              · have e : r = row := by simpa using h
                subst e; exact HRI2.out⟩
            case measure => simp [intOf]; omega
      · have hRne : rows ≠ [] := by
          have := HRL.out
          intro h0; rw [h0] at this; simp at this; omega
        have hlen := HRL.out
        obtain ⟨g, cap, hv6, hg, hgl, hml⟩ := HO.out.lie hRne
        subst hv6
        have HML := Lib.hid hml; clear hml
        have hwr := hb.size
        go_wp2_with fail
        refine (table_any _ _ _ _).mono ?_
        rintro e w2 ⟨rfl, hb2⟩
        have hr0 := fun o => hb.cell (p := ⟨w.heap.size, o, none⟩) (by omega)
        have hs0 := fun o => hb.frozen (p := ⟨w.heap.size, o, none⟩) (by omega)
        have hqr : w.heap.size < wr.heap.size := by omega
        (obtain ⟨hc2, hf2, hz2⟩ := ext_facts hb2; (try simp at hz2); (have hq2_0 : w.heap.size < w2.heap.size := by omega); (have hl2_0 : w.heap.size ≤ w2.heap.size := by omega); (have hr2_0 := fun o => hc2 (w.heap.size) o (by first | omega | (simp; done) | (simp; omega))); (have hs2_0 := fun o => hf2 (w.heap.size) o (by first | omega | (simp; done) | (simp; omega))); (try simp (disch := first | omega | (simp; omega)) only [World.cell?_alloc_past, World.cell?_drew] at hr2_0); (try simp (disch := first | omega | (simp; omega)) only [World.frozen?_alloc_past, World.frozen?_drew] at hs2_0); clear hc2 hf2)
        have htab : TabOk rows := ⟨1 + C, by omega, by omega, hRne, by omega, HRC.out, HRI.out⟩
        have hfl : rows.flatten.length ≤ 1000 := by
          have h1 := flatten_le (rows := rows) (c := 6) (fun r hr => by rw [HRC.out r hr]; omega)
          omega
        have HT := Lib.hid htab; clear htab
        have hwt : Ext w w2 := (hb1w.tr hb).tr hb2
        have hg0 : w.heap.size + 1 ≤ g := by have := hb1.size; simp at this; omega
        have hml2 : MLie Sc.cells 5 (w.heap.size + 1) w2.heap.size w2 g 0 rows := (HML.out.mono (by have := hb1.size; simp at this; omega) hb2.size).ext hb2
        have HM2 := Lib.hid hml2; clear hml2
        have hgl2 : g < w2.heap.size := by have := hb2.size; omega
        go_wp2
        refine bodyPost_ret (v := Mc.val ⟨5, 0, 0, ⟨#[]⟩, some ⟨g, 0, none⟩, k, cap⟩) (by simp [results, Tryz.results7, go_sem, *]) rfl ⟨⟨5, 0, 0, ⟨#[]⟩, some ⟨g, 0, none⟩, k, cap⟩, rows, rfl, ⟨hRne, hfl, fun r hr x hx => (HRI.out r hr x hx).k5, g, cap, by rw [HRL.out], hg0, by simpa using hgl2, ?_⟩, HT.out, (by repeat (first | with_reducible exact Below.refl _ _ | with_reducible assumption | ((with_reducible refine Below.setCell ?_ ?_ _); rotate_left; (simp; try omega)) | (with_reducible refine Ext.tr ?_ (by with_reducible assumption)) | (with_reducible refine Ext.al ?_ _) | (with_reducible refine below_drewN ?_ _) | (with_reducible refine Below.drew ?_)))⟩
        refine (HM2.out.mono (Nat.le_refl _) (by simp)).keep hg0 (by simpa using hgl2) (fun q hq _ => ?_)
        have hqn : q ≠ w.heap.size := by omega
        rw [heap_setCell_ne hqn, heap_setCell_ne hqn, heap_setCell_ne hqn, heap_setCell_ne hqn, heap_setCell_ne hqn]
  · obtain ⟨x0, hx0'⟩ := elem_at (show 0 < xs.length by omega)
    obtain ⟨_, b, o, rfl, _⟩ := HX.out 0 x0 hx0'.out
    clear hRz hx0'
    have hRI : ((R0 : Int) == 0) = false := by rw [beq_eq_false_iff_ne]; omega
    have hRJ : ¬ (R0 : Int) = 0 := by omega
    have hxI : ¬ (120 : Int) < (xs.length : Int) := by omega
    go_enter Tryz.func7, Tryz.ntmps7
    (go_wp2_with fail; refine (HP.out _).mono ?_; rintro e w1 ⟨rfl, hb1⟩; obtain ⟨hc1, hf1, hz1⟩ := ext_facts hb1; (try simp at hz1); (have hq1_0 : w.heap.size < w1.heap.size := by omega); (have hl1_0 : w.heap.size ≤ w1.heap.size := by omega); (have hr1_0 := fun o => hc1 (w.heap.size) o (by first | omega | (simp; done) | (simp; omega))); (have hs1_0 := fun o => hf1 (w.heap.size) o (by first | omega | (simp; done) | (simp; omega))); (try simp (disch := first | omega | (simp; omega)) only [World.cell?_alloc_past, World.cell?_drew] at hr1_0); (try simp (disch := first | omega | (simp; omega)) only [World.frozen?_alloc_past, World.frozen?_drew] at hs1_0); clear hc1 hf1)
    have hb1w : Ext w w1 := ((Ext.rf w).al _).tr hb1
    go_wp2
    go_loopw [6, 7] (fun v i wr => TabSt R0 C w1.heap.size w1 wr v i) (fun _ i _ => (R0 : Nat) - (intOf i).toNat)
    case atStart => exact ⟨0, [], Nat.zero_le _, rfl, Ext.rf _, MOwns.nil _ _, rfl, by simp, by simp⟩
    case round =>
      obtain ⟨k, rows, hk, rfl, hb, hown, hrl, hrc, hri⟩ := hrel
      have HO := Lib.hid hown; clear hown
      have HRC := Lib.hid hrc; clear hrc
      have HRI := Lib.hid hri; clear hri
      have HRL := Lib.hid hrl; clear hrl
      have hbw := hb1w.tr hb
      by_cases hlt : k < R0
      · generalize wr = wo at *
        have hk120 : k ≤ 119 := by omega
        have hltI : (k : Int) < R0 := by omega
        have hprod : k * (1 + C) ≤ 714 := Nat.mul_le_mul hk120 (show 1 + C ≤ 6 by omega)
        have hpr : (k : Int) * (1 + (C : Int)) = ((k * (1 + C) : Nat) : Int) := by push_cast; rfl
        generalize k * (1 + C) = q0 at hprod hpr
        go_wp2
        go_loopw [8, 9] (fun v i wq => RowSt C wo wq v i) (fun _ i _ => (1 + C) - (intOf i).toNat)
        case atStart => exact ⟨0, [], Nat.zero_le _, rfl, Ext.rf _, Owns.nil _ _, rfl, by simp⟩
        case round =>
          obtain ⟨j, row, hj, rfl, hbq, hoq, hrl, hri⟩ := hrel
          have HOQ := Lib.hid hoq
          have HRI2 := Lib.hid hri; clear hri
          have HRL2 := Lib.hid hrl
          have hszq := hbq.size
          by_cases hjlt : j < 1 + C
          · by_cases hidx : q0 + j < xs.length
            · obtain ⟨x, Hx⟩ := elem_at hidx
              obtain ⟨hxok, b1, o1, he, c0, c1, c2⟩ := (HX.out.ext (hbw.tr hbq)) (q0 + j) x Hx.out
              simp only [Option.some.injEq, Addr.mk.injEq, and_true] at he
              obtain ⟨he1, he2⟩ := he
              rw [← he1, ← he2] at c0 c1 c2
              clear he1 he2
              have hbl := lt_of_cell c0
              have HIV := Lib.hid (fun w' => itemVal_ok x w' hxok)
              have hown1 : ∀ q, u8.ownBlock = some q → q < wr.heap.size := fun q hq => (World.ownsRow.lt hoq q hq).2
              clear hoq hrl
              go_wp2_with fail
              refine (HIV.out _).mono ?_
              rintro e w2 ⟨y, rfl, hy, hb2⟩
              have HY := Lib.hid hy; clear hy
              (obtain ⟨hc2, hf2, hz2⟩ := ext_facts hb2; (try simp at hz2); (have hq2_0 : wr.heap.size < w2.heap.size := by omega); (have hl2_0 : wr.heap.size ≤ w2.heap.size := by omega); (have hr2_0 := fun o => hc2 (wr.heap.size) o (by first | omega | (simp; done) | (simp; omega))); (have hs2_0 := fun o => hf2 (wr.heap.size) o (by first | omega | (simp; done) | (simp; omega))); (try simp (disch := first | omega | (simp; omega)) only [World.cell?_alloc_past, World.cell?_drew] at hr2_0); (try simp (disch := first | omega | (simp; omega)) only [World.frozen?_alloc_past, World.frozen?_drew] at hs2_0); clear hc2 hf2)
              obtain ⟨yk, yn, yd, yt⟩ := y
              have hnb : u8.ownBlock ≠ some wr.heap.size := fun e => by have := hown1 _ e; omega
              have HO1 := Lib.hid (fun (o1 : Obj) => (((((((HOQ.out.alloc (.cells #[.int .i64 0, .int .i64 0, .int .i64 0, .string ⟨#[]⟩, .slice none 0 0] 28)).ext hb2).setOther (a := ⟨wr.heap.size, 0, none⟩) hnb (.int .i64 yk)).setOther (a := ⟨wr.heap.size, 1, none⟩) hnb (.int .i64 yn)).setOther (a := ⟨wr.heap.size, 2, none⟩) hnb (.int .i64 yd)).setOther (a := ⟨wr.heap.size, 3, none⟩) hnb (.string yt)).setOther (a := ⟨wr.heap.size, 4, none⟩) hnb (.slice none 0 0)).alloc o1)
              go_wp2_with (at_builtin; (refine append_vals rfl _ _ rfl wo.heap.size _ row rfl (HO1.out _) w2.heap.size 0 1 [⟨yk, yn, yd, yt⟩] rfl (lie_oneAt _ _ (by simp) ⟨yk, yn, yd, yt⟩) (by have := HRL2.out; simp only [List.length_singleton]; omega) (by simp; omega) ?_); intro v' w3 hown3 hg3)
              have hbx : Ext wo (w2.alloc (.cells #[.int .i64 yk, .int .i64 yn, .int .i64 yd, .string yt, .slice none 0 0] 28)) := (((hbq.al _).tr hb2).al _)
              have hb3 : Ext wo w3 := by
                refine Below.grown ?_ hg3 (by simp; omega) (fun q hq => HOQ.out.below q hq)
                have hb2a := (hbq.al (.cells #[.int .i64 0, .int .i64 0, .int .i64 0, .string ⟨#[]⟩, .slice none 0 0] 28)).tr hb2
                repeat (first | with_reducible exact Below.refl _ _ | with_reducible assumption | ((with_reducible refine Below.setCell ?_ ?_ _); rotate_left; (simp; try omega)) | (with_reducible refine Ext.tr ?_ (by with_reducible assumption)) | (with_reducible refine Ext.al ?_ _) | (with_reducible refine below_drewN ?_ _) | (with_reducible refine Below.drew ?_))
              have HO3 := Lib.hid hown3
              clear hown3 hbx
              go_roundw
              case rel => exact ⟨j + 1, row ++ [⟨yk, yn, yd, yt⟩], by omega, by go_num, hb3, HO3.out, by rw [List.length_append, HRL2.out]; rfl, fun z hz => by
                rcases List.mem_append.1 hz with h | h
                · exact HRI2.out z h
                · have e : z = ⟨yk, yn, yd, yt⟩ := by simpa using h
                  subst e; exact HY.out⟩
              case measure => simp [intOf]; omega
            · have hidx' : ¬ ((q0 : Int) + (j : Int) < (xs.length : Int)) := by omega
              clear hoq hrl
              go_wp2_with (at_builtin; (refine append_vals rfl _ _ rfl wo.heap.size _ row rfl ((HOQ.out.alloc _).alloc _) (wr.heap.size + 1) 0 1 [⟨0, 0, 0, ⟨#[]⟩⟩] rfl (lie_oneAt _ _ (by simp) ⟨0, 0, 0, ⟨#[]⟩⟩) (by have := HRL2.out; simp only [List.length_singleton]; omega) (by simp; omega) ?_); intro v' w3 hown3 hg3)
              have hb3 : Ext wo w3 := Below.grown ((hbq.al _).al _) hg3 (by simp; omega) (fun q hq => HOQ.out.below q hq)
              have HO3 := Lib.hid hown3
              clear hown3
              go_roundw
              case rel => exact ⟨j + 1, row ++ [⟨0, 0, 0, ⟨#[]⟩⟩], by omega, by go_num, hb3, HO3.out, by rw [List.length_append, HRL2.out]; rfl, fun z hz => by
                rcases List.mem_append.1 hz with h | h
                · exact HRI2.out z h
                · have e : z = ⟨0, 0, 0, ⟨#[]⟩⟩ := by simpa using h
                  subst e; exact Or.inl rfl⟩
              case measure => simp [intOf]; omega
          · have hrl6 : row.length = 1 + C := by omega
            have hrne : row ≠ [] := by intro h0; rw [h0] at hrl6; simp at hrl6; omega
            obtain ⟨g, cap, hv8, hg, hglie⟩ := GOwns.lie (cells := Sc.cells) Sc.cells_len hoq hrne
            subst hv8
            have hwo := hbw.size
            have hw1 := hb1w.size
            have hwo1 := hb.size
            have hgl : g < wr.heap.size := (World.ownsRow.lt hoq g rfl).2
            have hgv : u6.ownBlock ≠ some g := fun e => by have := HO.out.lt g e; omega
            have hlen := HRL.out
            have HGL := Lib.hid hglie
            have hb0 : w.heap.size + 1 ≤ w1.heap.size := by have := hb1.size; simpa using this
            clear hglie hoq hrl
            go_wp2_with (at_builtin; (refine mappend infoSlV Tryz.underlying26 rfl _ _ rfl w1.heap.size _ rows rfl ((HO.out.ext hbq).alloc _) wr.heap.size 0 1 row rfl g cap (by rw [World.cell?_alloc_at _ _ _ _ rfl, hrl6]; rfl) (HGL.out.ext ((Ext.rf _).al _)) hrne (by omega) (by simp; omega) hgv (by omega) (by simp; omega) ?_); intro v' w3 hown3 hg3)
            have hb3 : Ext w1 w3 := Below.grown ((hb.tr hbq).al _) hg3 (by simp; omega) (fun q hq => HO.out.below q hq)
            have HO3 := Lib.hid hown3
            clear hown3
            go_roundw
            case rel => exact ⟨k + 1, rows ++ [row], by omega, by go_num, hb3, HO3.out, by rw [List.length_append, HRL.out]; rfl, fun r hr => by
              rcases List.mem_append.1 hr with h | h
              · exact HRC.out r h
              · have e : r = row := by simpa using h
                subst e; exact hrl6, fun r hr => by
              rcases List.mem_append.1 hr with h | h
              · exact HRI.out r h
              · have e : r = row := by simpa using h
                subst e; exact HRI2.out⟩
            case measure => simp [intOf]; omega
      · have hRne : rows ≠ [] := by
          have := HRL.out
          intro h0; rw [h0] at this; simp at this; omega
        have hlen := HRL.out
        obtain ⟨g, cap, hv6, hg, hgl, hml⟩ := HO.out.lie hRne
        subst hv6
        have HML := Lib.hid hml; clear hml
        have hwr := hb.size
        go_wp2_with fail
        refine (table_any _ _ _ _).mono ?_
        rintro e w2 ⟨rfl, hb2⟩
        have hr0 := fun o => hb.cell (p := ⟨w.heap.size, o, none⟩) (by omega)
        have hs0 := fun o => hb.frozen (p := ⟨w.heap.size, o, none⟩) (by omega)
        have hqr : w.heap.size < wr.heap.size := by omega
        (obtain ⟨hc2, hf2, hz2⟩ := ext_facts hb2; (try simp at hz2); (have hq2_0 : w.heap.size < w2.heap.size := by omega); (have hl2_0 : w.heap.size ≤ w2.heap.size := by omega); (have hr2_0 := fun o => hc2 (w.heap.size) o (by first | omega | (simp; done) | (simp; omega))); (have hs2_0 := fun o => hf2 (w.heap.size) o (by first | omega | (simp; done) | (simp; omega))); (try simp (disch := first | omega | (simp; omega)) only [World.cell?_alloc_past, World.cell?_drew] at hr2_0); (try simp (disch := first | omega | (simp; omega)) only [World.frozen?_alloc_past, World.frozen?_drew] at hs2_0); clear hc2 hf2)
        have htab : TabOk rows := ⟨1 + C, by omega, by omega, hRne, by omega, HRC.out, HRI.out⟩
        have hfl : rows.flatten.length ≤ 1000 := by
          have h1 := flatten_le (rows := rows) (c := 6) (fun r hr => by rw [HRC.out r hr]; omega)
          omega
        have HT := Lib.hid htab; clear htab
        have hwt : Ext w w2 := (hb1w.tr hb).tr hb2
        have hg0 : w.heap.size + 1 ≤ g := by have := hb1.size; simp at this; omega
        have hml2 : MLie Sc.cells 5 (w.heap.size + 1) w2.heap.size w2 g 0 rows := (HML.out.mono (by have := hb1.size; simp at this; omega) hb2.size).ext hb2
        have HM2 := Lib.hid hml2; clear hml2
        have hgl2 : g < w2.heap.size := by have := hb2.size; omega
        go_wp2
        refine bodyPost_ret (v := Mc.val ⟨5, 0, 0, ⟨#[]⟩, some ⟨g, 0, none⟩, k, cap⟩) (by simp [results, Tryz.results7, go_sem, *]) rfl ⟨⟨5, 0, 0, ⟨#[]⟩, some ⟨g, 0, none⟩, k, cap⟩, rows, rfl, ⟨hRne, hfl, fun r hr x hx => (HRI.out r hr x hx).k5, g, cap, by rw [HRL.out], hg0, by simpa using hgl2, ?_⟩, HT.out, (by repeat (first | with_reducible exact Below.refl _ _ | with_reducible assumption | ((with_reducible refine Below.setCell ?_ ?_ _); rotate_left; (simp; try omega)) | (with_reducible refine Ext.tr ?_ (by with_reducible assumption)) | (with_reducible refine Ext.al ?_ _) | (with_reducible refine below_drewN ?_ _) | (with_reducible refine Below.drew ?_)))⟩
        refine (HM2.out.mono (Nat.le_refl _) (by simp)).keep hg0 (by simpa using hgl2) (fun q hq _ => ?_)
        have hqn : q ≠ w.heap.size := by omega
        rw [heap_setCell_ne hqn, heap_setCell_ne hqn, heap_setCell_ne hqn, heap_setCell_ne hqn, heap_setCell_ne hqn]
end Go.Proofs.YtpcfmkongpmmmaaGreatDoor
