/-
  The laws' cells: part, Item.val.
-/
import Derived.Test.YtpcfmkongpmmmaaGreatDoorNum
namespace Go.Proofs.YtpcfmkongpmmmaaGreatDoor
set_option linter.unusedSimpArgs false
set_option linter.unusedVariables false
open Go Go.RowKit
set_option maxRecDepth 100000

theorem tdiv4 (n : Int) : (n * 16).tdiv 4 = 4 * n := by
  rw [show n * 16 = (4 * n) * 4 by omega]; exact Int.mul_tdiv_cancel _ (by decide)

theorem tmod4 (n : Int) : (n * 16).tmod 4 = 0 := by
  rw [show n * 16 = 4 * (4 * n) by omega]; exact Int.mul_tmod_right 4 _

set_option maxHeartbeats 800000 in
theorem frac_4 (n : Int) (w : World) (h : n ≤ 1099511627776) (h' : -1099511627776 ≤ n) : Calls Tryz.prog 28 #[.int .i64 n, .int .i64 4] w (NumOr w (4 * n)) := by
  have h1 := tdiv4 n
  have h2 := tmod4 n
  go_enter Tryz.func28, Tryz.ntmps28
  go_wp2
  go_loop [0, 1] (fun a b => Half (4 * n) a b) (fun _ b => (intOf b).toNat)
  case atStart => exact ⟨4 * n, 16, by simp [h1], rfl, Or.inr (Or.inr (Or.inr (Or.inr rfl))), by omega, by omega, by omega⟩
  case round =>
    obtain ⟨q, d, rfl, rfl, hd, hZ, hq1, hq2⟩ := hrel
    clear h1 h2
    have hdb : 1 ≤ d ∧ d ≤ 16 := by rcases hd with rfl | rfl | rfl | rfl | rfl <;> omega
    obtain ⟨hdb1, hdb2⟩ := hdb
    have HZ := Lib.hid hZ
    clear hZ
    by_cases hc : 1 < d ∧ q.tmod 2 = 0
    · obtain ⟨hc1, hc2⟩ := hc
      have HS := Lib.hid (half_step hd HZ.out hc1 hc2 hq1 hq2)
      have hc3 : (q.tmod 2 == 0) = true := by rw [hc2]; rfl
      clear hc2
      go_wp2
      go_round
      case rel => exact HS.out
      case measure => simp [intOf]; omega
    · have hx : d ≤ 1 ∨ (1 < d ∧ (q.tmod 2 == 0) = false ∧ (q % 2 == 0) = false) := by
        by_cases h1 : 1 < d
        · exact Or.inr ⟨h1, by rw [beq_eq_false_iff_ne]; exact fun e => hc ⟨h1, e⟩, by rw [beq_eq_false_iff_ne]; exact fun e => hc ⟨h1, tmod_of_emod e⟩⟩
        · exact Or.inl (by omega)
      clear hc
      have hs : (99999999999 < q ∨ q < -99999999999) ∨ (q ≤ 99999999999 ∧ -99999999999 ≤ q) := by omega
      rcases hs with hs | ⟨hs1, hs2⟩
      · rcases hx with hx | ⟨hx, hx2, hx3⟩ <;> rcases hs with hs | hs
        all_goals
          go_wp2_with (go_at_call 20; refine (doubt_any _).mono ?_; rintro e w1 ⟨rfl, hb⟩; obtain ⟨hc, hf, hz⟩ := ext_facts hb; (try simp at hz); (try (have hq : w.heap.size < w1.heap.size := by omega)); (try (have hq' : w.heap.size ≤ w1.heap.size := by omega)); (try (have hr := fun o => hc w.heap.size o (by first | omega | (simp; done) | (simp; omega)))); (try (have hrf := fun o => hf w.heap.size o (by first | omega | (simp; done) | (simp; omega)))))
          exact bodyPost_ret (v := unsure) (by simp [results, Tryz.results28, go_sem, *]) rfl ⟨Or.inr rfl, (by repeat (first | with_reducible exact Below.refl _ _ | with_reducible assumption | ((with_reducible refine Below.setCell ?_ ?_ _); rotate_left; (simp; try omega)) | (with_reducible refine Ext.tr ?_ (by with_reducible assumption)) | (with_reducible refine Ext.al ?_ _) | (with_reducible refine below_drewN ?_ _) | (with_reducible refine Below.drew ?_)))⟩
      · rcases hx with hx | ⟨hx, hx2, hx3⟩
        all_goals
          go_wp2
          exact bodyPost_ret (v := number q d) (by simp [results, Tryz.results28, go_sem, *]) rfl ⟨Or.inl ⟨q, d, rfl, hd, HZ.out, hs2, hs1⟩, (by repeat (first | with_reducible exact Below.refl _ _ | with_reducible assumption | ((with_reducible refine Below.setCell ?_ ?_ _); rotate_left; (simp; try omega)) | (with_reducible refine Ext.tr ?_ (by with_reducible assumption)) | (with_reducible refine Ext.al ?_ _) | (with_reducible refine below_drewN ?_ _) | (with_reducible refine Below.drew ?_)))⟩

/-- What a cell of a law is worth. -/
def ItemSc (x : Sc) : Prop := x = ⟨0, 0, 0, ⟨#[]⟩⟩ ∨ (∃ Z, ArgOk Z x) ∨ (∃ t, x = ⟨2, 0, 0, t⟩) ∨ x = ⟨3, 0, 0, ⟨#[]⟩⟩ ∨ x = ⟨3, 1, 0, ⟨#[]⟩⟩ ∨ (∃ t, x = ⟨4, 0, 0, t⟩)

theorem ItemSc.k5 {x : Sc} (h : ItemSc x) : x.k ≠ 5 := by
  rcases h with rfl | ⟨Z, h⟩ | ⟨t, rfl⟩ | rfl | rfl | ⟨t, rfl⟩
  · simp
  · rcases h.kind with h | h <;> omega
  · simp
  · simp
  · simp
  · simp

theorem ItemSc.log {x : Sc} (h : ItemSc x) (h3 : x.k = 3) : x.n = 0 ∨ x.n = 1 := by
  rcases h with rfl | ⟨Z, h⟩ | ⟨t, rfl⟩ | rfl | rfl | ⟨t, rfl⟩
  · exact Or.inl rfl
  · rcases h.kind with h | h <;> omega
  · exact Or.inl rfl
  · exact Or.inl rfl
  · exact Or.inr rfl
  · exact Or.inl rfl

theorem ItemSc.num {x : Sc} (h : ItemSc x) (h1 : x.k = 1) : NumK x ∧ x.t = ⟨#[]⟩ := by
  rcases h with rfl | ⟨Z, ⟨h, ht, _⟩ | rfl⟩ | ⟨t, rfl⟩ | rfl | rfl | ⟨t, rfl⟩
  · cases h1
  · exact ⟨h, ht⟩
  · cases h1
  · cases h1
  · cases h1
  · cases h1
  · cases h1

set_option maxHeartbeats 400000 in
theorem part_six (k : Int) (w : World) : Calls Tryz.prog 18 #[.int .i64 k, .int .i64 6] w (Gives w (.int .i64 (k % 6))) := by
  have h1 := Int.mul_tdiv_add_tmod k 6
  have h2 := Int.tmod_lt_of_pos k (show (0 : Int) < 6 by decide); have h3 := Int.lt_tmod_of_pos k (show (0 : Int) < 6 by decide)
  by_cases hq : k.tmod 6 < 0
  · rw [show k % 6 = k.tmod 6 + 6 by omega]
    clear h1
    go_enter Tryz.func18, Tryz.ntmps18
    go_wp2
    go_ret
    exact ⟨rfl, (by repeat (first | with_reducible exact Below.refl _ _ | with_reducible assumption | ((with_reducible refine Below.setCell ?_ ?_ _); rotate_left; (simp; try omega)) | (with_reducible refine Ext.tr ?_ (by with_reducible assumption)) | (with_reducible refine Ext.al ?_ _) | (with_reducible refine below_drewN ?_ _) | (with_reducible refine Below.drew ?_)))⟩
  · rw [show k % 6 = k.tmod 6 by omega]
    clear h1
    go_enter Tryz.func18, Tryz.ntmps18
    go_wp2
    go_ret
    exact ⟨rfl, (by repeat (first | with_reducible exact Below.refl _ _ | with_reducible assumption | ((with_reducible refine Below.setCell ?_ ?_ _); rotate_left; (simp; try omega)) | (with_reducible refine Ext.tr ?_ (by with_reducible assumption)) | (with_reducible refine Ext.al ?_ _) | (with_reducible refine below_drewN ?_ _) | (with_reducible refine Below.drew ?_)))⟩

set_option maxHeartbeats 400000 in
theorem part_seven (k : Int) (w : World) : Calls Tryz.prog 18 #[.int .i64 k, .int .i64 7] w (Gives w (.int .i64 (k % 7))) := by
  have h1 := Int.mul_tdiv_add_tmod k 7
  have h2 := Int.tmod_lt_of_pos k (show (0 : Int) < 7 by decide); have h3 := Int.lt_tmod_of_pos k (show (0 : Int) < 7 by decide)
  by_cases hq : k.tmod 7 < 0
  · rw [show k % 7 = k.tmod 7 + 7 by omega]
    clear h1
    go_enter Tryz.func18, Tryz.ntmps18
    go_wp2
    go_ret
    exact ⟨rfl, (by repeat (first | with_reducible exact Below.refl _ _ | with_reducible assumption | ((with_reducible refine Below.setCell ?_ ?_ _); rotate_left; (simp; try omega)) | (with_reducible refine Ext.tr ?_ (by with_reducible assumption)) | (with_reducible refine Ext.al ?_ _) | (with_reducible refine below_drewN ?_ _) | (with_reducible refine Below.drew ?_)))⟩
  · rw [show k % 7 = k.tmod 7 by omega]
    clear h1
    go_enter Tryz.func18, Tryz.ntmps18
    go_wp2
    go_ret
    exact ⟨rfl, (by repeat (first | with_reducible exact Below.refl _ _ | with_reducible assumption | ((with_reducible refine Below.setCell ?_ ?_ _); rotate_left; (simp; try omega)) | (with_reducible refine Ext.tr ?_ (by with_reducible assumption)) | (with_reducible refine Ext.al ?_ _) | (with_reducible refine below_drewN ?_ _) | (with_reducible refine Below.drew ?_)))⟩

/-- A cell of a law. -/
structure It where
  k : Int
  n : Int
  t : ByteArray

def It.cells (x : It) : List Value := [.int .i64 x.k, .int .i64 x.n, .string x.t]
theorem It.cells_len (x : It) : x.cells.length = 3 := rfl
/-- Its numbers are Go's. -/
def It.ok (x : It) : Prop := -9223372036854775808 ≤ x.n ∧ x.n ≤ 9223372036854775807

set_option maxHeartbeats 1600000 in
theorem itemVal_ok (x : It) (w : World) (h : x.ok) : Calls Tryz.prog 19 #[.agg #[.int .i64 x.k, .int .i64 x.n, .string x.t]] w fun e w' => ∃ y : Sc, e = .returned y.val ∧ ItemSc y ∧ Ext w w' := by
  obtain ⟨k, n, t⟩ := x
  obtain ⟨n1, n2⟩ := h
  simp only at n1 n2
  have hp := fun w' => part_six k w'
  have hk : k % 6 = 0 ∨ k % 6 = 1 ∨ k % 6 = 2 ∨ k % 6 = 3 ∨ k % 6 = 4 ∨ k % 6 = 5 := by omega
  rcases hk with h | h | h | h | h | h
  all_goals
    rw [h] at hp
  · have HP := Lib.hid hp; clear hp h
    go_enter Tryz.func19, Tryz.ntmps19
    (go_wp2_with fail; refine (HP.out _).mono ?_; rintro e w1 ⟨rfl, hb1⟩; obtain ⟨hc1, hf1, hz1⟩ := ext_facts hb1; (try simp at hz1); (have hq1_0 : w.heap.size < w1.heap.size := by omega); (have hl1_0 : w.heap.size ≤ w1.heap.size := by omega); (have hr1_0 := fun o => hc1 (w.heap.size) o (by first | omega | (simp; done) | (simp; omega))); (have hs1_0 := fun o => hf1 (w.heap.size) o (by first | omega | (simp; done) | (simp; omega))); (try simp (disch := first | omega | (simp; omega)) only [World.cell?_alloc_past, World.cell?_drew] at hr1_0); (try simp (disch := first | omega | (simp; omega)) only [World.frozen?_alloc_past, World.frozen?_drew] at hs1_0); (have hq1_1 : w.heap.size + 1 < w1.heap.size := by omega); (have hl1_1 : w.heap.size + 1 ≤ w1.heap.size := by omega); (have hr1_1 := fun o => hc1 (w.heap.size + 1) o (by first | omega | (simp; done) | (simp; omega))); (have hs1_1 := fun o => hf1 (w.heap.size + 1) o (by first | omega | (simp; done) | (simp; omega))); (try simp (disch := first | omega | (simp; omega)) only [World.cell?_alloc_past, World.cell?_drew] at hr1_1); (try simp (disch := first | omega | (simp; omega)) only [World.frozen?_alloc_past, World.frozen?_drew] at hs1_1); clear hc1 hf1)
    go_wp2
    exact bodyPost_ret (v := Sc.val ⟨0, 0, 0, ⟨#[]⟩⟩) (by simp [results, Tryz.results19, go_sem, *]) rfl ⟨⟨0, 0, 0, ⟨#[]⟩⟩, rfl, Or.inl rfl, (by repeat (first | with_reducible exact Below.refl _ _ | with_reducible assumption | ((with_reducible refine Below.setCell ?_ ?_ _); rotate_left; (simp; try omega)) | (with_reducible refine Ext.tr ?_ (by with_reducible assumption)) | (with_reducible refine Ext.al ?_ _) | (with_reducible refine below_drewN ?_ _) | (with_reducible refine Below.drew ?_)))⟩
  · have HP := Lib.hid hp; clear hp h
    by_cases hn : -99999999999 ≤ n ∧ n ≤ 99999999999
    · obtain ⟨m1, m2⟩ := hn
      go_enter Tryz.func19, Tryz.ntmps19
      (go_wp2_with fail; refine (HP.out _).mono ?_; rintro e w1 ⟨rfl, hb1⟩; obtain ⟨hc1, hf1, hz1⟩ := ext_facts hb1; (try simp at hz1); (have hq1_0 : w.heap.size < w1.heap.size := by omega); (have hl1_0 : w.heap.size ≤ w1.heap.size := by omega); (have hr1_0 := fun o => hc1 (w.heap.size) o (by first | omega | (simp; done) | (simp; omega))); (have hs1_0 := fun o => hf1 (w.heap.size) o (by first | omega | (simp; done) | (simp; omega))); (try simp (disch := first | omega | (simp; omega)) only [World.cell?_alloc_past, World.cell?_drew] at hr1_0); (try simp (disch := first | omega | (simp; omega)) only [World.frozen?_alloc_past, World.frozen?_drew] at hs1_0); (have hq1_1 : w.heap.size + 1 < w1.heap.size := by omega); (have hl1_1 : w.heap.size + 1 ≤ w1.heap.size := by omega); (have hr1_1 := fun o => hc1 (w.heap.size + 1) o (by first | omega | (simp; done) | (simp; omega))); (have hs1_1 := fun o => hf1 (w.heap.size + 1) o (by first | omega | (simp; done) | (simp; omega))); (try simp (disch := first | omega | (simp; omega)) only [World.cell?_alloc_past, World.cell?_drew] at hr1_1); (try simp (disch := first | omega | (simp; omega)) only [World.frozen?_alloc_past, World.frozen?_drew] at hs1_1); clear hc1 hf1)
      (go_wp2_with fail; refine (int_ok n _ m2 m1).mono ?_; rintro e w2 ⟨rfl, hb2⟩; obtain ⟨hc2, hf2, hz2⟩ := ext_facts hb2; (try simp at hz2); (have hq2_0 : w.heap.size < w2.heap.size := by omega); (have hl2_0 : w.heap.size ≤ w2.heap.size := by omega); (have hr2_0 := fun o => hc2 (w.heap.size) o (by first | omega | (simp; done) | (simp; omega))); (have hs2_0 := fun o => hf2 (w.heap.size) o (by first | omega | (simp; done) | (simp; omega))); (try simp (disch := first | omega | (simp; omega)) only [World.cell?_alloc_past, World.cell?_drew] at hr2_0); (try simp (disch := first | omega | (simp; omega)) only [World.frozen?_alloc_past, World.frozen?_drew] at hs2_0); (have hq2_1 : w.heap.size + 1 < w2.heap.size := by omega); (have hl2_1 : w.heap.size + 1 ≤ w2.heap.size := by omega); (have hr2_1 := fun o => hc2 (w.heap.size + 1) o (by first | omega | (simp; done) | (simp; omega))); (have hs2_1 := fun o => hf2 (w.heap.size + 1) o (by first | omega | (simp; done) | (simp; omega))); (try simp (disch := first | omega | (simp; omega)) only [World.cell?_alloc_past, World.cell?_drew] at hr2_1); (try simp (disch := first | omega | (simp; omega)) only [World.frozen?_alloc_past, World.frozen?_drew] at hs2_1); clear hc2 hf2)
      go_wp2
      exact bodyPost_ret (v := Sc.val ⟨1, n, 1, ⟨#[]⟩⟩) (by simp [results, Tryz.results19, go_sem, *]) rfl ⟨⟨1, n, 1, ⟨#[]⟩⟩, rfl, Or.inr (Or.inl ⟨n * 16, Or.inl ⟨⟨rfl, Or.inl rfl, m1, m2⟩, rfl, rfl⟩⟩), (by repeat (first | with_reducible exact Below.refl _ _ | with_reducible assumption | ((with_reducible refine Below.setCell ?_ ?_ _); rotate_left; (simp; try omega)) | (with_reducible refine Ext.tr ?_ (by with_reducible assumption)) | (with_reducible refine Ext.al ?_ _) | (with_reducible refine below_drewN ?_ _) | (with_reducible refine Below.drew ?_)))⟩
    · have hn' : 99999999999 < n ∨ n < -99999999999 := by omega
      have HI := Lib.hid (fun w' => int_big n w' hn')
      clear hn hn'
      go_enter Tryz.func19, Tryz.ntmps19
      (go_wp2_with fail; refine (HP.out _).mono ?_; rintro e w1 ⟨rfl, hb1⟩; obtain ⟨hc1, hf1, hz1⟩ := ext_facts hb1; (try simp at hz1); (have hq1_0 : w.heap.size < w1.heap.size := by omega); (have hl1_0 : w.heap.size ≤ w1.heap.size := by omega); (have hr1_0 := fun o => hc1 (w.heap.size) o (by first | omega | (simp; done) | (simp; omega))); (have hs1_0 := fun o => hf1 (w.heap.size) o (by first | omega | (simp; done) | (simp; omega))); (try simp (disch := first | omega | (simp; omega)) only [World.cell?_alloc_past, World.cell?_drew] at hr1_0); (try simp (disch := first | omega | (simp; omega)) only [World.frozen?_alloc_past, World.frozen?_drew] at hs1_0); (have hq1_1 : w.heap.size + 1 < w1.heap.size := by omega); (have hl1_1 : w.heap.size + 1 ≤ w1.heap.size := by omega); (have hr1_1 := fun o => hc1 (w.heap.size + 1) o (by first | omega | (simp; done) | (simp; omega))); (have hs1_1 := fun o => hf1 (w.heap.size + 1) o (by first | omega | (simp; done) | (simp; omega))); (try simp (disch := first | omega | (simp; omega)) only [World.cell?_alloc_past, World.cell?_drew] at hr1_1); (try simp (disch := first | omega | (simp; omega)) only [World.frozen?_alloc_past, World.frozen?_drew] at hs1_1); clear hc1 hf1)
      (go_wp2_with fail; refine (HI.out _).mono ?_; rintro e w2 ⟨rfl, hb2⟩; obtain ⟨hc2, hf2, hz2⟩ := ext_facts hb2; (try simp at hz2); (have hq2_0 : w.heap.size < w2.heap.size := by omega); (have hl2_0 : w.heap.size ≤ w2.heap.size := by omega); (have hr2_0 := fun o => hc2 (w.heap.size) o (by first | omega | (simp; done) | (simp; omega))); (have hs2_0 := fun o => hf2 (w.heap.size) o (by first | omega | (simp; done) | (simp; omega))); (try simp (disch := first | omega | (simp; omega)) only [World.cell?_alloc_past, World.cell?_drew] at hr2_0); (try simp (disch := first | omega | (simp; omega)) only [World.frozen?_alloc_past, World.frozen?_drew] at hs2_0); (have hq2_1 : w.heap.size + 1 < w2.heap.size := by omega); (have hl2_1 : w.heap.size + 1 ≤ w2.heap.size := by omega); (have hr2_1 := fun o => hc2 (w.heap.size + 1) o (by first | omega | (simp; done) | (simp; omega))); (have hs2_1 := fun o => hf2 (w.heap.size + 1) o (by first | omega | (simp; done) | (simp; omega))); (try simp (disch := first | omega | (simp; omega)) only [World.cell?_alloc_past, World.cell?_drew] at hr2_1); (try simp (disch := first | omega | (simp; omega)) only [World.frozen?_alloc_past, World.frozen?_drew] at hs2_1); clear hc2 hf2)
      go_wp2
      exact bodyPost_ret (v := Sc.val ⟨6, 0, 0, ⟨#[]⟩⟩) (by simp [results, Tryz.results19, go_sem, *]) rfl ⟨⟨6, 0, 0, ⟨#[]⟩⟩, rfl, Or.inr (Or.inl ⟨0, Or.inr rfl⟩), (by repeat (first | with_reducible exact Below.refl _ _ | with_reducible assumption | ((with_reducible refine Below.setCell ?_ ?_ _); rotate_left; (simp; try omega)) | (with_reducible refine Ext.tr ?_ (by with_reducible assumption)) | (with_reducible refine Ext.al ?_ _) | (with_reducible refine below_drewN ?_ _) | (with_reducible refine Below.drew ?_)))⟩
  · have HP := Lib.hid hp; clear hp h
    have hm1 := Int.tmod_lt_of_pos n (show (0 : Int) < 1099511627776 by decide); have hm2 := Int.lt_tmod_of_pos n (show (0 : Int) < 1099511627776 by decide)
    have HF := Lib.hid (fun w' => frac_4 (n.tmod 1099511627776) w' (by omega) (by omega))
    clear hm1 hm2
    go_enter Tryz.func19, Tryz.ntmps19
    (go_wp2_with fail; refine (HP.out _).mono ?_; rintro e w1 ⟨rfl, hb1⟩; obtain ⟨hc1, hf1, hz1⟩ := ext_facts hb1; (try simp at hz1); (have hq1_0 : w.heap.size < w1.heap.size := by omega); (have hl1_0 : w.heap.size ≤ w1.heap.size := by omega); (have hr1_0 := fun o => hc1 (w.heap.size) o (by first | omega | (simp; done) | (simp; omega))); (have hs1_0 := fun o => hf1 (w.heap.size) o (by first | omega | (simp; done) | (simp; omega))); (try simp (disch := first | omega | (simp; omega)) only [World.cell?_alloc_past, World.cell?_drew] at hr1_0); (try simp (disch := first | omega | (simp; omega)) only [World.frozen?_alloc_past, World.frozen?_drew] at hs1_0); (have hq1_1 : w.heap.size + 1 < w1.heap.size := by omega); (have hl1_1 : w.heap.size + 1 ≤ w1.heap.size := by omega); (have hr1_1 := fun o => hc1 (w.heap.size + 1) o (by first | omega | (simp; done) | (simp; omega))); (have hs1_1 := fun o => hf1 (w.heap.size + 1) o (by first | omega | (simp; done) | (simp; omega))); (try simp (disch := first | omega | (simp; omega)) only [World.cell?_alloc_past, World.cell?_drew] at hr1_1); (try simp (disch := first | omega | (simp; omega)) only [World.frozen?_alloc_past, World.frozen?_drew] at hs1_1); clear hc1 hf1)
    go_wp2_with fail
    refine (HF.out _).mono ?_
    rintro e w2 hx
    obtain ⟨x, rfl, hx', hb2⟩ := NumOr.sc hx
    clear hx
    have HX := Lib.hid hx'; clear hx'
    (obtain ⟨hc2, hf2, hz2⟩ := ext_facts hb2; (try simp at hz2); (have hq2_0 : w.heap.size < w2.heap.size := by omega); (have hl2_0 : w.heap.size ≤ w2.heap.size := by omega); (have hr2_0 := fun o => hc2 (w.heap.size) o (by first | omega | (simp; done) | (simp; omega))); (have hs2_0 := fun o => hf2 (w.heap.size) o (by first | omega | (simp; done) | (simp; omega))); (try simp (disch := first | omega | (simp; omega)) only [World.cell?_alloc_past, World.cell?_drew] at hr2_0); (try simp (disch := first | omega | (simp; omega)) only [World.frozen?_alloc_past, World.frozen?_drew] at hs2_0); (have hq2_1 : w.heap.size + 1 < w2.heap.size := by omega); (have hl2_1 : w.heap.size + 1 ≤ w2.heap.size := by omega); (have hr2_1 := fun o => hc2 (w.heap.size + 1) o (by first | omega | (simp; done) | (simp; omega))); (have hs2_1 := fun o => hf2 (w.heap.size + 1) o (by first | omega | (simp; done) | (simp; omega))); (try simp (disch := first | omega | (simp; omega)) only [World.cell?_alloc_past, World.cell?_drew] at hr2_1); (try simp (disch := first | omega | (simp; omega)) only [World.frozen?_alloc_past, World.frozen?_drew] at hs2_1); clear hc2 hf2)
    obtain ⟨xk, xn, xd, xt⟩ := x
    go_wp2
    exact bodyPost_ret (v := Sc.val ⟨xk, xn, xd, xt⟩) (by simp [results, Tryz.results19, go_sem, *]) rfl ⟨⟨xk, xn, xd, xt⟩, rfl, Or.inr (Or.inl ⟨_, HX.out⟩), (by repeat (first | with_reducible exact Below.refl _ _ | with_reducible assumption | ((with_reducible refine Below.setCell ?_ ?_ _); rotate_left; (simp; try omega)) | (with_reducible refine Ext.tr ?_ (by with_reducible assumption)) | (with_reducible refine Ext.al ?_ _) | (with_reducible refine below_drewN ?_ _) | (with_reducible refine Below.drew ?_)))⟩
  · have HP := Lib.hid hp; clear hp h
    go_enter Tryz.func19, Tryz.ntmps19
    (go_wp2_with fail; refine (HP.out _).mono ?_; rintro e w1 ⟨rfl, hb1⟩; obtain ⟨hc1, hf1, hz1⟩ := ext_facts hb1; (try simp at hz1); (have hq1_0 : w.heap.size < w1.heap.size := by omega); (have hl1_0 : w.heap.size ≤ w1.heap.size := by omega); (have hr1_0 := fun o => hc1 (w.heap.size) o (by first | omega | (simp; done) | (simp; omega))); (have hs1_0 := fun o => hf1 (w.heap.size) o (by first | omega | (simp; done) | (simp; omega))); (try simp (disch := first | omega | (simp; omega)) only [World.cell?_alloc_past, World.cell?_drew] at hr1_0); (try simp (disch := first | omega | (simp; omega)) only [World.frozen?_alloc_past, World.frozen?_drew] at hs1_0); (have hq1_1 : w.heap.size + 1 < w1.heap.size := by omega); (have hl1_1 : w.heap.size + 1 ≤ w1.heap.size := by omega); (have hr1_1 := fun o => hc1 (w.heap.size + 1) o (by first | omega | (simp; done) | (simp; omega))); (have hs1_1 := fun o => hf1 (w.heap.size + 1) o (by first | omega | (simp; done) | (simp; omega))); (try simp (disch := first | omega | (simp; omega)) only [World.cell?_alloc_past, World.cell?_drew] at hr1_1); (try simp (disch := first | omega | (simp; omega)) only [World.frozen?_alloc_past, World.frozen?_drew] at hs1_1); clear hc1 hf1)
    (go_wp2_with fail; refine (str_any t _).mono ?_; rintro e w2 ⟨rfl, hb2⟩; obtain ⟨hc2, hf2, hz2⟩ := ext_facts hb2; (try simp at hz2); (have hq2_0 : w.heap.size < w2.heap.size := by omega); (have hl2_0 : w.heap.size ≤ w2.heap.size := by omega); (have hr2_0 := fun o => hc2 (w.heap.size) o (by first | omega | (simp; done) | (simp; omega))); (have hs2_0 := fun o => hf2 (w.heap.size) o (by first | omega | (simp; done) | (simp; omega))); (try simp (disch := first | omega | (simp; omega)) only [World.cell?_alloc_past, World.cell?_drew] at hr2_0); (try simp (disch := first | omega | (simp; omega)) only [World.frozen?_alloc_past, World.frozen?_drew] at hs2_0); (have hq2_1 : w.heap.size + 1 < w2.heap.size := by omega); (have hl2_1 : w.heap.size + 1 ≤ w2.heap.size := by omega); (have hr2_1 := fun o => hc2 (w.heap.size + 1) o (by first | omega | (simp; done) | (simp; omega))); (have hs2_1 := fun o => hf2 (w.heap.size + 1) o (by first | omega | (simp; done) | (simp; omega))); (try simp (disch := first | omega | (simp; omega)) only [World.cell?_alloc_past, World.cell?_drew] at hr2_1); (try simp (disch := first | omega | (simp; omega)) only [World.frozen?_alloc_past, World.frozen?_drew] at hs2_1); clear hc2 hf2)
    go_wp2
    exact bodyPost_ret (v := Sc.val ⟨2, 0, 0, t⟩) (by simp [results, Tryz.results19, go_sem, *]) rfl ⟨⟨2, 0, 0, t⟩, rfl, Or.inr (Or.inr (Or.inl ⟨t, rfl⟩)), (by repeat (first | with_reducible exact Below.refl _ _ | with_reducible assumption | ((with_reducible refine Below.setCell ?_ ?_ _); rotate_left; (simp; try omega)) | (with_reducible refine Ext.tr ?_ (by with_reducible assumption)) | (with_reducible refine Ext.al ?_ _) | (with_reducible refine below_drewN ?_ _) | (with_reducible refine Below.drew ?_)))⟩
  · have HP := Lib.hid hp; clear hp h
    have HB := Lib.hid (fun r w' => bool_any r w')
    obtain ⟨r, hr⟩ : ∃ r : Bool, (n.tmod 2 != 0) = r := ⟨_, rfl⟩
    cases r
    · go_enter Tryz.func19, Tryz.ntmps19
      (go_wp2_with fail; refine (HP.out _).mono ?_; rintro e w1 ⟨rfl, hb1⟩; obtain ⟨hc1, hf1, hz1⟩ := ext_facts hb1; (try simp at hz1); (have hq1_0 : w.heap.size < w1.heap.size := by omega); (have hl1_0 : w.heap.size ≤ w1.heap.size := by omega); (have hr1_0 := fun o => hc1 (w.heap.size) o (by first | omega | (simp; done) | (simp; omega))); (have hs1_0 := fun o => hf1 (w.heap.size) o (by first | omega | (simp; done) | (simp; omega))); (try simp (disch := first | omega | (simp; omega)) only [World.cell?_alloc_past, World.cell?_drew] at hr1_0); (try simp (disch := first | omega | (simp; omega)) only [World.frozen?_alloc_past, World.frozen?_drew] at hs1_0); (have hq1_1 : w.heap.size + 1 < w1.heap.size := by omega); (have hl1_1 : w.heap.size + 1 ≤ w1.heap.size := by omega); (have hr1_1 := fun o => hc1 (w.heap.size + 1) o (by first | omega | (simp; done) | (simp; omega))); (have hs1_1 := fun o => hf1 (w.heap.size + 1) o (by first | omega | (simp; done) | (simp; omega))); (try simp (disch := first | omega | (simp; omega)) only [World.cell?_alloc_past, World.cell?_drew] at hr1_1); (try simp (disch := first | omega | (simp; omega)) only [World.frozen?_alloc_past, World.frozen?_drew] at hs1_1); clear hc1 hf1)
      (go_wp2_with fail; refine (HB.out false _).mono ?_; rintro e w2 ⟨rfl, hb2⟩; obtain ⟨hc2, hf2, hz2⟩ := ext_facts hb2; (try simp at hz2); (have hq2_0 : w.heap.size < w2.heap.size := by omega); (have hl2_0 : w.heap.size ≤ w2.heap.size := by omega); (have hr2_0 := fun o => hc2 (w.heap.size) o (by first | omega | (simp; done) | (simp; omega))); (have hs2_0 := fun o => hf2 (w.heap.size) o (by first | omega | (simp; done) | (simp; omega))); (try simp (disch := first | omega | (simp; omega)) only [World.cell?_alloc_past, World.cell?_drew] at hr2_0); (try simp (disch := first | omega | (simp; omega)) only [World.frozen?_alloc_past, World.frozen?_drew] at hs2_0); (have hq2_1 : w.heap.size + 1 < w2.heap.size := by omega); (have hl2_1 : w.heap.size + 1 ≤ w2.heap.size := by omega); (have hr2_1 := fun o => hc2 (w.heap.size + 1) o (by first | omega | (simp; done) | (simp; omega))); (have hs2_1 := fun o => hf2 (w.heap.size + 1) o (by first | omega | (simp; done) | (simp; omega))); (try simp (disch := first | omega | (simp; omega)) only [World.cell?_alloc_past, World.cell?_drew] at hr2_1); (try simp (disch := first | omega | (simp; omega)) only [World.frozen?_alloc_past, World.frozen?_drew] at hs2_1); clear hc2 hf2)
      go_wp2
      exact bodyPost_ret (v := Sc.val ⟨3, 0, 0, ⟨#[]⟩⟩) (by simp [results, Tryz.results19, go_sem, *]) rfl ⟨⟨3, 0, 0, ⟨#[]⟩⟩, rfl, Or.inr (Or.inr (Or.inr (Or.inl rfl))), (by repeat (first | with_reducible exact Below.refl _ _ | with_reducible assumption | ((with_reducible refine Below.setCell ?_ ?_ _); rotate_left; (simp; try omega)) | (with_reducible refine Ext.tr ?_ (by with_reducible assumption)) | (with_reducible refine Ext.al ?_ _) | (with_reducible refine below_drewN ?_ _) | (with_reducible refine Below.drew ?_)))⟩
    · go_enter Tryz.func19, Tryz.ntmps19
      (go_wp2_with fail; refine (HP.out _).mono ?_; rintro e w1 ⟨rfl, hb1⟩; obtain ⟨hc1, hf1, hz1⟩ := ext_facts hb1; (try simp at hz1); (have hq1_0 : w.heap.size < w1.heap.size := by omega); (have hl1_0 : w.heap.size ≤ w1.heap.size := by omega); (have hr1_0 := fun o => hc1 (w.heap.size) o (by first | omega | (simp; done) | (simp; omega))); (have hs1_0 := fun o => hf1 (w.heap.size) o (by first | omega | (simp; done) | (simp; omega))); (try simp (disch := first | omega | (simp; omega)) only [World.cell?_alloc_past, World.cell?_drew] at hr1_0); (try simp (disch := first | omega | (simp; omega)) only [World.frozen?_alloc_past, World.frozen?_drew] at hs1_0); (have hq1_1 : w.heap.size + 1 < w1.heap.size := by omega); (have hl1_1 : w.heap.size + 1 ≤ w1.heap.size := by omega); (have hr1_1 := fun o => hc1 (w.heap.size + 1) o (by first | omega | (simp; done) | (simp; omega))); (have hs1_1 := fun o => hf1 (w.heap.size + 1) o (by first | omega | (simp; done) | (simp; omega))); (try simp (disch := first | omega | (simp; omega)) only [World.cell?_alloc_past, World.cell?_drew] at hr1_1); (try simp (disch := first | omega | (simp; omega)) only [World.frozen?_alloc_past, World.frozen?_drew] at hs1_1); clear hc1 hf1)
      (go_wp2_with fail; refine (HB.out true _).mono ?_; rintro e w2 ⟨rfl, hb2⟩; obtain ⟨hc2, hf2, hz2⟩ := ext_facts hb2; (try simp at hz2); (have hq2_0 : w.heap.size < w2.heap.size := by omega); (have hl2_0 : w.heap.size ≤ w2.heap.size := by omega); (have hr2_0 := fun o => hc2 (w.heap.size) o (by first | omega | (simp; done) | (simp; omega))); (have hs2_0 := fun o => hf2 (w.heap.size) o (by first | omega | (simp; done) | (simp; omega))); (try simp (disch := first | omega | (simp; omega)) only [World.cell?_alloc_past, World.cell?_drew] at hr2_0); (try simp (disch := first | omega | (simp; omega)) only [World.frozen?_alloc_past, World.frozen?_drew] at hs2_0); (have hq2_1 : w.heap.size + 1 < w2.heap.size := by omega); (have hl2_1 : w.heap.size + 1 ≤ w2.heap.size := by omega); (have hr2_1 := fun o => hc2 (w.heap.size + 1) o (by first | omega | (simp; done) | (simp; omega))); (have hs2_1 := fun o => hf2 (w.heap.size + 1) o (by first | omega | (simp; done) | (simp; omega))); (try simp (disch := first | omega | (simp; omega)) only [World.cell?_alloc_past, World.cell?_drew] at hr2_1); (try simp (disch := first | omega | (simp; omega)) only [World.frozen?_alloc_past, World.frozen?_drew] at hs2_1); clear hc2 hf2)
      go_wp2
      exact bodyPost_ret (v := Sc.val ⟨3, 1, 0, ⟨#[]⟩⟩) (by simp [results, Tryz.results19, go_sem, *]) rfl ⟨⟨3, 1, 0, ⟨#[]⟩⟩, rfl, Or.inr (Or.inr (Or.inr (Or.inr (Or.inl rfl)))), (by repeat (first | with_reducible exact Below.refl _ _ | with_reducible assumption | ((with_reducible refine Below.setCell ?_ ?_ _); rotate_left; (simp; try omega)) | (with_reducible refine Ext.tr ?_ (by with_reducible assumption)) | (with_reducible refine Ext.al ?_ _) | (with_reducible refine below_drewN ?_ _) | (with_reducible refine Below.drew ?_)))⟩
  · have HP := Lib.hid hp; clear hp h
    have h7 : n % 7 = 0 ∨ n % 7 = 1 ∨ n % 7 = 2 ∨ n % 7 = 3 ∨ n % 7 = 4 ∨ n % 7 = 5 ∨ n % 7 = 6 := by omega
    have hp7 := fun w' => part_seven n w'
    rcases h7 with h7 | h7 | h7 | h7 | h7 | h7 | h7
    all_goals
      rw [h7] at hp7
      have HQ := Lib.hid hp7; clear hp7 h7
      go_enter Tryz.func19, Tryz.ntmps19
      (go_wp2_with fail; refine (HP.out _).mono ?_; rintro e w1 ⟨rfl, hb1⟩; obtain ⟨hc1, hf1, hz1⟩ := ext_facts hb1; (try simp at hz1); (have hq1_0 : w.heap.size < w1.heap.size := by omega); (have hl1_0 : w.heap.size ≤ w1.heap.size := by omega); (have hr1_0 := fun o => hc1 (w.heap.size) o (by first | omega | (simp; done) | (simp; omega))); (have hs1_0 := fun o => hf1 (w.heap.size) o (by first | omega | (simp; done) | (simp; omega))); (try simp (disch := first | omega | (simp; omega)) only [World.cell?_alloc_past, World.cell?_drew] at hr1_0); (try simp (disch := first | omega | (simp; omega)) only [World.frozen?_alloc_past, World.frozen?_drew] at hs1_0); (have hq1_1 : w.heap.size + 1 < w1.heap.size := by omega); (have hl1_1 : w.heap.size + 1 ≤ w1.heap.size := by omega); (have hr1_1 := fun o => hc1 (w.heap.size + 1) o (by first | omega | (simp; done) | (simp; omega))); (have hs1_1 := fun o => hf1 (w.heap.size + 1) o (by first | omega | (simp; done) | (simp; omega))); (try simp (disch := first | omega | (simp; omega)) only [World.cell?_alloc_past, World.cell?_drew] at hr1_1); (try simp (disch := first | omega | (simp; omega)) only [World.frozen?_alloc_past, World.frozen?_drew] at hs1_1); clear hc1 hf1)
      (go_wp2_with fail; refine (HQ.out _).mono ?_; rintro e w2 ⟨rfl, hb2⟩; obtain ⟨hc2, hf2, hz2⟩ := ext_facts hb2; (try simp at hz2); (have hq2_0 : w.heap.size < w2.heap.size := by omega); (have hl2_0 : w.heap.size ≤ w2.heap.size := by omega); (have hr2_0 := fun o => hc2 (w.heap.size) o (by first | omega | (simp; done) | (simp; omega))); (have hs2_0 := fun o => hf2 (w.heap.size) o (by first | omega | (simp; done) | (simp; omega))); (try simp (disch := first | omega | (simp; omega)) only [World.cell?_alloc_past, World.cell?_drew] at hr2_0); (try simp (disch := first | omega | (simp; omega)) only [World.frozen?_alloc_past, World.frozen?_drew] at hs2_0); (have hq2_1 : w.heap.size + 1 < w2.heap.size := by omega); (have hl2_1 : w.heap.size + 1 ≤ w2.heap.size := by omega); (have hr2_1 := fun o => hc2 (w.heap.size + 1) o (by first | omega | (simp; done) | (simp; omega))); (have hs2_1 := fun o => hf2 (w.heap.size + 1) o (by first | omega | (simp; done) | (simp; omega))); (try simp (disch := first | omega | (simp; omega)) only [World.cell?_alloc_past, World.cell?_drew] at hr2_1); (try simp (disch := first | omega | (simp; omega)) only [World.frozen?_alloc_past, World.frozen?_drew] at hs2_1); (have hq2_2 : w1.heap.size < w2.heap.size := by omega); (have hl2_2 : w1.heap.size ≤ w2.heap.size := by omega); (have hr2_2 := fun o => hc2 (w1.heap.size) o (by first | omega | (simp; done) | (simp; omega))); (have hs2_2 := fun o => hf2 (w1.heap.size) o (by first | omega | (simp; done) | (simp; omega))); (try simp (disch := first | omega | (simp; omega)) only [World.cell?_alloc_past, World.cell?_drew] at hr2_2); (try simp (disch := first | omega | (simp; omega)) only [World.frozen?_alloc_past, World.frozen?_drew] at hs2_2); clear hc2 hf2)
      go_wp2_with fail
      refine (err_any _ _).mono ?_
      rintro e w3 ⟨rfl, hb3⟩
      (obtain ⟨hc3, hf3, hz3⟩ := ext_facts hb3; (try simp at hz3); (have hq3_0 : w.heap.size < w3.heap.size := by omega); (have hl3_0 : w.heap.size ≤ w3.heap.size := by omega); (have hr3_0 := fun o => hc3 (w.heap.size) o (by first | omega | (simp; done) | (simp; omega))); (have hs3_0 := fun o => hf3 (w.heap.size) o (by first | omega | (simp; done) | (simp; omega))); (try simp (disch := first | omega | (simp; omega)) only [World.cell?_alloc_past, World.cell?_drew] at hr3_0); (try simp (disch := first | omega | (simp; omega)) only [World.frozen?_alloc_past, World.frozen?_drew] at hs3_0); (have hq3_1 : w.heap.size + 1 < w3.heap.size := by omega); (have hl3_1 : w.heap.size + 1 ≤ w3.heap.size := by omega); (have hr3_1 := fun o => hc3 (w.heap.size + 1) o (by first | omega | (simp; done) | (simp; omega))); (have hs3_1 := fun o => hf3 (w.heap.size + 1) o (by first | omega | (simp; done) | (simp; omega))); (try simp (disch := first | omega | (simp; omega)) only [World.cell?_alloc_past, World.cell?_drew] at hr3_1); (try simp (disch := first | omega | (simp; omega)) only [World.frozen?_alloc_past, World.frozen?_drew] at hs3_1); clear hc3 hf3)
      go_wp2
      refine bodyPost_ret (v := errv _) (by simp [results, Tryz.results19, go_sem, *]; rfl) rfl ⟨⟨4, 0, 0, _⟩, rfl, Or.inr (Or.inr (Or.inr (Or.inr (Or.inr ⟨_, rfl⟩)))), (by repeat (first | with_reducible exact Below.refl _ _ | with_reducible assumption | ((with_reducible refine Below.setCell ?_ ?_ _); rotate_left; (simp; try omega)) | (with_reducible refine Ext.tr ?_ (by with_reducible assumption)) | (with_reducible refine Ext.al ?_ _) | (with_reducible refine below_drewN ?_ _) | (with_reducible refine Below.drew ?_)))⟩
end Go.Proofs.YtpcfmkongpmmmaaGreatDoor
