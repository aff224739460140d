/-
  A word is no number: strconv.ParseFloat of it.
-/
import Derived.Test.YtlbhebmjdaaglaaGreatDoorRd3
import Derived.WalkMore
namespace Go.Proofs.YtlbhebmjdaaglaaGreatDoor
set_option linter.unusedSimpArgs false
set_option linter.unusedVariables false
open Go Go.RowKit
set_option maxRecDepth 100000

set_option maxHeartbeats 1600000 in
theorem cpl_true (s p : ByteArray) (w : World) (hd : decide (s.size < p.size) = true) (hs : s.size ≤ 1000000000) (hp : p.size ≤ 1000) :
    Calls Tryz.prog 167 #[.string s, .string p] w fun e w' => ∃ r : Nat, e = .returned (.int .i64 (r : Int)) ∧ r ≤ s.size ∧ r ≤ p.size ∧ (∀ (j : Nat) (h1 : j < s.size) (h2 : j < p.size), j < r → Lib.lowerB (s[j]'h1) = p[j]'h2) ∧ Ext w w' := by
  simp only [decide_eq_true_eq, decide_eq_false_iff_not] at hd
  have hm1 : s.size ≤ s.size := by omega
  have hm2 : s.size ≤ p.size := by omega
  go_enter Tryz.func167, Tryz.ntmps167
  go_wp2
  go_loop [6] (fun i => ∃ k : Nat, k ≤ s.size ∧ i = .int .i64 (k : Int) ∧ Hid (∀ (j : Nat) (h1 : j < s.size) (h2 : j < p.size), j < k → Lib.lowerB (s[j]'h1) = p[j]'h2)) (fun i => s.size - (intOf i).toNat)
  case atStart => exact ⟨0, Nat.zero_le _, rfl, Lib.hid (fun j _ _ h => absurd h (Nat.not_lt_zero j))⟩
  case round =>
    obtain ⟨k, hk, rfl, hall⟩ := hrel
    by_cases hlt : k < s.size
    · have h1 : k < s.size := by omega
      have h2 : k < p.size := by omega
      have hu := loB_int (s[k]'h1)
      have hnext : ((Lib.lowerB (s[k]'h1)).toNat : Int) = ((p[k]'h2).toNat : Int) → (∀ (j : Nat) (h1 : j < s.size) (h2 : j < p.size), j < k + 1 → Lib.lowerB (s[j]'h1) = p[j]'h2) := by
        intro he j g1 g2 hj
        by_cases hjk : j = k
        · subst hjk
          exact UInt8.toNat_inj.1 (by omega)
        · exact hall.out j g1 g2 (by omega)
      generalize ((Lib.lowerB (s[k]'h1)).toNat : Int) = lc at *
      have hp0 : (0 : Int) ≤ (p[k]'h2).toNat := by omega
      have HN := Lib.hid hnext
      clear hnext
      have hc0 : (0 : Int) ≤ (s[k]'h1).toNat := by omega
      have hc1 : ((s[k]'h1).toNat : Int) < 256 := by have := (s[k]'h1).toNat_lt; omega
      by_cases hup : (65 : Int) ≤ (s[k]'h1).toNat ∧ ((s[k]'h1).toNat : Int) ≤ 90
      · rw [if_pos hup] at hu
        obtain ⟨u1, u2⟩ := hup
        by_cases heq : lc = (p[k]'h2).toNat
        · have hne : (((s[k]'h1).toNat : Int) + 32 != ((p[k]'h2).toNat : Int)) = false := by rw [← hu, heq]; simp
          go_wp2
          go_round
          case rel => exact ⟨k + 1, by omega, by go_num, Lib.hid (HN.out heq)⟩
          case measure => simp [intOf]; omega
        · have hne : (((s[k]'h1).toNat : Int) + 32 != ((p[k]'h2).toNat : Int)) = true := by rw [← hu, bne_iff_ne]; exact heq
          go_wp2
          go_ret
          exact ⟨k, rfl, by omega, by omega, hall.out, (by repeat (first | with_reducible exact Below.refl _ _ | with_reducible assumption | ((with_reducible refine Below.setCell ?_ ?_ _); rotate_left; (simp; try omega)) | (with_reducible refine Ext.tr ?_ (by with_reducible assumption)) | (with_reducible refine Ext.al ?_ _) | (with_reducible refine below_drewN ?_ _) | (with_reducible refine Below.drew ?_)))⟩
      · rw [if_neg hup] at hu
        have hor : ((s[k]'h1).toNat : Int) < 65 ∨ (65 ≤ ((s[k]'h1).toNat : Int) ∧ 90 < ((s[k]'h1).toNat : Int)) := by omega
        by_cases heq : lc = (p[k]'h2).toNat
        · have hne : (((s[k]'h1).toNat : Int) != ((p[k]'h2).toNat : Int)) = false := by rw [← hu, heq]; simp
          rcases hor with u1 | ⟨u1, u2⟩
          all_goals
            go_wp2
            go_round
            case rel => exact ⟨k + 1, by omega, by go_num, Lib.hid (HN.out heq)⟩
            case measure => simp [intOf]; omega
        · have hne : (((s[k]'h1).toNat : Int) != ((p[k]'h2).toNat : Int)) = true := by rw [← hu, bne_iff_ne]; exact heq
          rcases hor with u1 | ⟨u1, u2⟩
          all_goals
            go_wp2
            go_ret
            exact ⟨k, rfl, by omega, by omega, hall.out, (by repeat (first | with_reducible exact Below.refl _ _ | with_reducible assumption | ((with_reducible refine Below.setCell ?_ ?_ _); rotate_left; (simp; try omega)) | (with_reducible refine Ext.tr ?_ (by with_reducible assumption)) | (with_reducible refine Ext.al ?_ _) | (with_reducible refine below_drewN ?_ _) | (with_reducible refine Below.drew ?_)))⟩
    · have hkm : k = s.size := by omega
      subst hkm
      go_wp2
      go_ret
      exact ⟨s.size, rfl, by omega, by omega, hall.out, (by repeat (first | with_reducible exact Below.refl _ _ | with_reducible assumption | ((with_reducible refine Below.setCell ?_ ?_ _); rotate_left; (simp; try omega)) | (with_reducible refine Ext.tr ?_ (by with_reducible assumption)) | (with_reducible refine Ext.al ?_ _) | (with_reducible refine below_drewN ?_ _) | (with_reducible refine Below.drew ?_)))⟩

set_option maxHeartbeats 1600000 in
theorem cpl_false (s p : ByteArray) (w : World) (hd : decide (s.size < p.size) = false) (hs : s.size ≤ 1000000000) (hp : p.size ≤ 1000) :
    Calls Tryz.prog 167 #[.string s, .string p] w fun e w' => ∃ r : Nat, e = .returned (.int .i64 (r : Int)) ∧ r ≤ s.size ∧ r ≤ p.size ∧ (∀ (j : Nat) (h1 : j < s.size) (h2 : j < p.size), j < r → Lib.lowerB (s[j]'h1) = p[j]'h2) ∧ Ext w w' := by
  simp only [decide_eq_true_eq, decide_eq_false_iff_not] at hd
  have hm1 : p.size ≤ s.size := by omega
  have hm2 : p.size ≤ p.size := by omega
  go_enter Tryz.func167, Tryz.ntmps167
  go_wp2
  go_loop [6] (fun i => ∃ k : Nat, k ≤ p.size ∧ i = .int .i64 (k : Int) ∧ Hid (∀ (j : Nat) (h1 : j < s.size) (h2 : j < p.size), j < k → Lib.lowerB (s[j]'h1) = p[j]'h2)) (fun i => p.size - (intOf i).toNat)
  case atStart => exact ⟨0, Nat.zero_le _, rfl, Lib.hid (fun j _ _ h => absurd h (Nat.not_lt_zero j))⟩
  case round =>
    obtain ⟨k, hk, rfl, hall⟩ := hrel
    by_cases hlt : k < p.size
    · have h1 : k < s.size := by omega
      have h2 : k < p.size := by omega
      have hu := loB_int (s[k]'h1)
      have hnext : ((Lib.lowerB (s[k]'h1)).toNat : Int) = ((p[k]'h2).toNat : Int) → (∀ (j : Nat) (h1 : j < s.size) (h2 : j < p.size), j < k + 1 → Lib.lowerB (s[j]'h1) = p[j]'h2) := by
        intro he j g1 g2 hj
        by_cases hjk : j = k
        · subst hjk
          exact UInt8.toNat_inj.1 (by omega)
        · exact hall.out j g1 g2 (by omega)
      generalize ((Lib.lowerB (s[k]'h1)).toNat : Int) = lc at *
      have hp0 : (0 : Int) ≤ (p[k]'h2).toNat := by omega
      have HN := Lib.hid hnext
      clear hnext
      have hc0 : (0 : Int) ≤ (s[k]'h1).toNat := by omega
      have hc1 : ((s[k]'h1).toNat : Int) < 256 := by have := (s[k]'h1).toNat_lt; omega
      by_cases hup : (65 : Int) ≤ (s[k]'h1).toNat ∧ ((s[k]'h1).toNat : Int) ≤ 90
      · rw [if_pos hup] at hu
        obtain ⟨u1, u2⟩ := hup
        by_cases heq : lc = (p[k]'h2).toNat
        · have hne : (((s[k]'h1).toNat : Int) + 32 != ((p[k]'h2).toNat : Int)) = false := by rw [← hu, heq]; simp
          go_wp2
          go_round
          case rel => exact ⟨k + 1, by omega, by go_num, Lib.hid (HN.out heq)⟩
          case measure => simp [intOf]; omega
        · have hne : (((s[k]'h1).toNat : Int) + 32 != ((p[k]'h2).toNat : Int)) = true := by rw [← hu, bne_iff_ne]; exact heq
          go_wp2
          go_ret
          exact ⟨k, rfl, by omega, by omega, hall.out, (by repeat (first | with_reducible exact Below.refl _ _ | with_reducible assumption | ((with_reducible refine Below.setCell ?_ ?_ _); rotate_left; (simp; try omega)) | (with_reducible refine Ext.tr ?_ (by with_reducible assumption)) | (with_reducible refine Ext.al ?_ _) | (with_reducible refine below_drewN ?_ _) | (with_reducible refine Below.drew ?_)))⟩
      · rw [if_neg hup] at hu
        have hor : ((s[k]'h1).toNat : Int) < 65 ∨ (65 ≤ ((s[k]'h1).toNat : Int) ∧ 90 < ((s[k]'h1).toNat : Int)) := by omega
        by_cases heq : lc = (p[k]'h2).toNat
        · have hne : (((s[k]'h1).toNat : Int) != ((p[k]'h2).toNat : Int)) = false := by rw [← hu, heq]; simp
          rcases hor with u1 | ⟨u1, u2⟩
          all_goals
            go_wp2
            go_round
            case rel => exact ⟨k + 1, by omega, by go_num, Lib.hid (HN.out heq)⟩
            case measure => simp [intOf]; omega
        · have hne : (((s[k]'h1).toNat : Int) != ((p[k]'h2).toNat : Int)) = true := by rw [← hu, bne_iff_ne]; exact heq
          rcases hor with u1 | ⟨u1, u2⟩
          all_goals
            go_wp2
            go_ret
            exact ⟨k, rfl, by omega, by omega, hall.out, (by repeat (first | with_reducible exact Below.refl _ _ | with_reducible assumption | ((with_reducible refine Below.setCell ?_ ?_ _); rotate_left; (simp; try omega)) | (with_reducible refine Ext.tr ?_ (by with_reducible assumption)) | (with_reducible refine Ext.al ?_ _) | (with_reducible refine below_drewN ?_ _) | (with_reducible refine Below.drew ?_)))⟩
    · have hkm : k = p.size := by omega
      subst hkm
      go_wp2
      go_ret
      exact ⟨p.size, rfl, by omega, by omega, hall.out, (by repeat (first | with_reducible exact Below.refl _ _ | with_reducible assumption | ((with_reducible refine Below.setCell ?_ ?_ _); rotate_left; (simp; try omega)) | (with_reducible refine Ext.tr ?_ (by with_reducible assumption)) | (with_reducible refine Ext.al ?_ _) | (with_reducible refine below_drewN ?_ _) | (with_reducible refine Below.drew ?_)))⟩

theorem cpl_ok (s p : ByteArray) (w : World) (hs : s.size ≤ 1000000000) (hp : p.size ≤ 1000) :
    Calls Tryz.prog 167 #[.string s, .string p] w fun e w' => ∃ r : Nat, e = .returned (.int .i64 (r : Int)) ∧ r ≤ s.size ∧ r ≤ p.size ∧ (∀ (j : Nat) (h1 : j < s.size) (h2 : j < p.size), j < r → Lib.lowerB (s[j]'h1) = p[j]'h2) ∧ Ext w w' := by
  cases hd : decide (s.size < p.size)
  · exact cpl_false s p w hd hs hp
  · exact cpl_true s p w hd hs hp
theorem word_first {s : ByteArray} (h : wordT s = true) : ∃ h0 : 0 < s.size, 65 ≤ ((s[0]'h0).toNat : Int) ∧ 2 ≤ s.size := by
  unfold wordT at h
  rw [Bool.and_eq_true, Bool.and_eq_true, Bool.and_eq_true] at h
  obtain ⟨hall, _, h2, _⟩ := h
  have h2' : 2 ≤ s.size := by simpa using h2
  have h0 : 0 < s.size := by omega
  refine ⟨h0, ?_, h2'⟩
  have hb := List.all_eq_true.1 hall _ (List.mem_of_getElem? (byte_at h0))
  have hi := loB_int (s[0]'h0)
  unfold letB at hb
  simp only [Bool.not_eq_true', Bool.or_eq_false_iff, decide_eq_false_iff_not] at hb
  by_cases hc : (65 : Int) ≤ (s[0]'h0).toNat
  · exact hc
  · rw [if_neg (by omega)] at hi
    omega

theorem letter_first {s : ByteArray} (h : wordT s = true) : ∃ h0 : 0 < s.size, ¬ (((s[0]'h0).toNat : Int) ≤ 57) ∧ ((((s[0]'h0).toNat : Int)) == 45) = false ∧ ((((s[0]'h0).toNat : Int)) == 46) = false ∧ (48 : Int) ≤ (s[0]'h0).toNat := by
  obtain ⟨h0, h1, _⟩ := word_first h
  exact ⟨h0, by omega, by rw [beq_eq_false_iff_ne]; omega, by rw [beq_eq_false_iff_ne]; omega, by omega⟩

theorem frombits_inf (w : World) : (callFunc 140 #[.int .u64 9218868437227405312]).run Tryz.prog w = .ok (.value (.float .f64 9218868437227405312)) w := by kernel_rfl

theorem frombits_nan (w : World) : (callFunc 140 #[.int .u64 9221120237041090561]).run Tryz.prog w = .ok (.value (.float .f64 9221120237041090561)) w := by kernel_rfl

theorem infw_ok (w : World) : Calls Tryz.prog 168 #[.int .i64 1] w (Gives w (.float .f64 9218868437227405312)) := by
  have hb := frombits_inf
  go_enter Tryz.func168, Tryz.ntmps168
  go_wp2
  go_ret
  exact ⟨rfl, (by repeat (first | with_reducible exact Below.refl _ _ | with_reducible assumption | ((with_reducible refine Below.setCell ?_ ?_ _); rotate_left; (simp; try omega)) | (with_reducible refine Ext.tr ?_ (by with_reducible assumption)) | (with_reducible refine Ext.al ?_ _) | (with_reducible refine below_drewN ?_ _) | (with_reducible refine Below.drew ?_)))⟩

theorem nanw_ok (w : World) : Calls Tryz.prog 169 #[] w (Gives w (.float .f64 9221120237041090561)) := by
  have hb := frombits_nan
  go_enter Tryz.func169, Tryz.ntmps169
  go_wp2
  go_ret
  exact ⟨rfl, (by repeat (first | with_reducible exact Below.refl _ _ | with_reducible assumption | ((with_reducible refine Below.setCell ?_ ?_ _); rotate_left; (simp; try omega)) | (with_reducible refine Ext.tr ?_ (by with_reducible assumption)) | (with_reducible refine Ext.al ?_ _) | (with_reducible refine below_drewN ?_ _) | (with_reducible refine Below.drew ?_)))⟩

theorem lowT_of {s q : ByteArray} (hsz : s.size = q.size) (h : ∀ (j : Nat) (h1 : j < s.size) (h2 : j < q.size), Lib.lowerB (s[j]'h1) = q[j]'h2) : lowT s = q := by
  have hl : s.data.toList.map Lib.lowerB = q.data.toList := by
    apply List.ext_getElem
    · simp only [List.length_map, Array.length_toList]; exact hsz
    · intro i h1 h2
      simp only [List.getElem_map, Array.getElem_toList]
      exact h i (by simpa using h1) (by simpa using h2)
  unfold lowT
  rw [hl]

abbrev infT : ByteArray := ⟨#[105, 110, 102]⟩
abbrev infinityT : ByteArray := ⟨#[105, 110, 102, 105, 110, 105, 116, 121]⟩
abbrev nanT : ByteArray := ⟨#[110, 97, 110]⟩

theorem word_odd {s : ByteArray} (h : wordT s = true) : oddWord (lowT s).toList = false := by
  unfold wordT at h
  rw [Bool.and_eq_true, Bool.and_eq_true] at h
  simpa using h.2.1

theorem word_inf {s : ByteArray} (h : wordT s = true) : lowT s ≠ infT := by
  intro e
  have h2 := word_odd h
  rw [e] at h2
  exact absurd h2 (by decide +kernel)

theorem word_infinity {s : ByteArray} (h : wordT s = true) : lowT s ≠ infinityT := by
  intro e
  have h2 := word_odd h
  rw [e] at h2
  exact absurd h2 (by decide +kernel)

theorem word_nan {s : ByteArray} (h : wordT s = true) : lowT s ≠ nanT := by
  intro e
  have h2 := word_odd h
  rw [e] at h2
  exact absurd h2 (by decide +kernel)

theorem no3 {s : ByteArray} (h : wordT s = true) (r : Nat) (hr : 3 ≤ r) (hall : ∀ (j : Nat) (h1 : j < s.size) (h2 : j < infinityT.size), j < r → Lib.lowerB (s[j]'h1) = infinityT[j]'h2) : s.size ≠ 3 := by
  intro h3
  refine word_inf h (lowT_of h3 ?_)
  intro j h1 h2
  have h2' : j < 3 := h2
  have h2'' : j < infinityT.size := by show j < 8; omega
  rw [hall j h1 h2'' (by omega)]
  have : j = 0 ∨ j = 1 ∨ j = 2 := by omega
  rcases this with rfl | rfl | rfl <;> rfl

theorem no8 {s : ByteArray} (h : wordT s = true) (hall : ∀ (j : Nat) (h1 : j < s.size) (h2 : j < infinityT.size), j < 8 → Lib.lowerB (s[j]'h1) = infinityT[j]'h2) : s.size ≠ 8 := by
  intro h3
  exact word_infinity h (lowT_of h3 fun j h1 h2 => hall j h1 h2 h2)

theorem no3n {s : ByteArray} (h : wordT s = true) (hall : ∀ (j : Nat) (h1 : j < s.size) (h2 : j < nanT.size), j < 3 → Lib.lowerB (s[j]'h1) = nanT[j]'h2) : s.size ≠ 3 := by
  intro h3
  exact word_nan h (lowT_of h3 fun j h1 h2 => hall j h1 h2 h2)

/-- What special says of a word: nothing, or of a part of it alone. -/
def SpecialOf (s : ByteArray) (w : World) (e : Ending) (w' : World) : Prop := ∃ (f n : Nat) (b : Bool), e = .returned (.tuple #[.float .f64 f, .int .i64 (n : Int), .bool b]) ∧ (b = true → n < s.size) ∧ Ext w w'

set_option maxHeartbeats 3200000 in
theorem special_word (s : ByteArray) (w : World) (hs : s.size ≤ 1000000000) (hw : wordT s = true) :
    Calls Tryz.prog 130 #[.string s] w (SpecialOf s w) := by
  obtain ⟨h0, g1, g2, g3, g4⟩ := letter_first hw
  have HI := Lib.hid (fun w' => cpl_ok s infinityT w' hs (by decide))
  have HN := Lib.hid (fun w' => cpl_ok s nanT w' hs (by decide))
  have g5 : (((s[0]'h0).toNat : Int) == 43) = false := by rw [beq_eq_false_iff_ne]; omega
  have hsz2 := (word_first hw).2
  have HW := Lib.hid hw
  obtain ⟨c, hc⟩ : ∃ c : Int, ((s[0]'h0).toNat : Int) = c := ⟨_, rfl⟩
  rw [hc] at g1 g2 g3 g4 g5
  clear hw hsz2 g3 g4
  by_cases c1 : c = 105 ∨ c = 73
  · have hn : ∀ (x : Int), True := fun _ => trivial
    rcases c1 with rfl | rfl
    all_goals
      go_enter Tryz.func130, Tryz.ntmps130
      go_wp2_with fail
      refine (HI.out _).mono ?_
      rintro e w1 ⟨r, rfl, r1, r2, hall, hb1⟩
      have r2' : r ≤ 8 := r2
      have HA := Lib.hid hall; clear hall
      by_cases q3 : r < 3
      · have e3 : ((r : Int) == 3) = false := by rw [beq_eq_false_iff_ne]; omega
        have e8 : ((r : Int) == 8) = false := by rw [beq_eq_false_iff_ne]; omega
        have l3 : ¬ (3 : Int) < r := by omega
        go_wp2
        exact bodyPost_ret (v := .tuple #[.float .f64 0, .int .i64 0, .bool false]) (by simp [results, Tryz.results130, go_sem, *]) rfl ⟨0, 0, false, rfl, by simp, (by repeat (first | with_reducible exact Below.refl _ _ | with_reducible assumption | ((with_reducible refine Below.setCell ?_ ?_ _); rotate_left; (simp; try omega)) | (with_reducible refine Ext.tr ?_ (by with_reducible assumption)) | (with_reducible refine Ext.al ?_ _) | (with_reducible refine below_drewN ?_ _) | (with_reducible refine Below.drew ?_)))⟩
      · have n3 := no3 HW.out r (by omega) HA.out
        have hlen : 3 < s.size := by omega
        by_cases q8 : r = 8
        · subst q8
          have n8 := no8 HW.out HA.out
          have hlen8 : 8 < s.size := by omega
          clear HA HW
          go_wp2_with fail
          (go_wp2_with fail; refine (infw_ok _).mono ?_; rintro e w2 ⟨rfl, hb2⟩; obtain ⟨hc2, hf2, hz2⟩ := ext_facts hb2; (try simp at hz2); clear hc2 hf2)
          go_wp2
          exact bodyPost_ret (v := .tuple #[.float .f64 9218868437227405312, .int .i64 8, .bool true]) (by simp [results, Tryz.results130, go_sem, *]) rfl ⟨9218868437227405312, 8, true, rfl, fun _ => hlen8, (by repeat (first | with_reducible exact Below.refl _ _ | with_reducible assumption | ((with_reducible refine Below.setCell ?_ ?_ _); rotate_left; (simp; try omega)) | (with_reducible refine Ext.tr ?_ (by with_reducible assumption)) | (with_reducible refine Ext.al ?_ _) | (with_reducible refine below_drewN ?_ _) | (with_reducible refine Below.drew ?_)))⟩
        · by_cases q33 : r = 3
          · subst q33
            clear HA HW
            go_wp2_with fail
            (go_wp2_with fail; refine (infw_ok _).mono ?_; rintro e w2 ⟨rfl, hb2⟩; obtain ⟨hc2, hf2, hz2⟩ := ext_facts hb2; (try simp at hz2); clear hc2 hf2)
            go_wp2
            exact bodyPost_ret (v := .tuple #[.float .f64 9218868437227405312, .int .i64 3, .bool true]) (by simp [results, Tryz.results130, go_sem, *]) rfl ⟨9218868437227405312, 3, true, rfl, fun _ => hlen, (by repeat (first | with_reducible exact Below.refl _ _ | with_reducible assumption | ((with_reducible refine Below.setCell ?_ ?_ _); rotate_left; (simp; try omega)) | (with_reducible refine Ext.tr ?_ (by with_reducible assumption)) | (with_reducible refine Ext.al ?_ _) | (with_reducible refine below_drewN ?_ _) | (with_reducible refine Below.drew ?_)))⟩
          · have l3 : (3 : Int) < r := by omega
            have l8 : (r : Int) < 8 := by omega
            clear HA HW
            go_wp2_with fail
            (go_wp2_with fail; refine (infw_ok _).mono ?_; rintro e w2 ⟨rfl, hb2⟩; obtain ⟨hc2, hf2, hz2⟩ := ext_facts hb2; (try simp at hz2); clear hc2 hf2)
            go_wp2
            exact bodyPost_ret (v := .tuple #[.float .f64 9218868437227405312, .int .i64 3, .bool true]) (by simp [results, Tryz.results130, go_sem, *]) rfl ⟨9218868437227405312, 3, true, rfl, fun _ => hlen, (by repeat (first | with_reducible exact Below.refl _ _ | with_reducible assumption | ((with_reducible refine Below.setCell ?_ ?_ _); rotate_left; (simp; try omega)) | (with_reducible refine Ext.tr ?_ (by with_reducible assumption)) | (with_reducible refine Ext.al ?_ _) | (with_reducible refine below_drewN ?_ _) | (with_reducible refine Below.drew ?_)))⟩
  · have i1 : (c == 105) = false := by rw [beq_eq_false_iff_ne]; omega
    have i2 : (c == 73) = false := by rw [beq_eq_false_iff_ne]; omega
    by_cases c2 : c = 110 ∨ c = 78
    · rcases c2 with rfl | rfl
      all_goals
        go_enter Tryz.func130, Tryz.ntmps130
        go_wp2_with fail
        refine (HN.out _).mono ?_
        rintro e w1 ⟨r, rfl, r1, r2, hall, hb1⟩
        by_cases q3 : r = 3
        · subst q3
          have n3 := no3n HW.out hall
          have hlen : 3 < s.size := by omega
          clear hall HW
          go_wp2_with fail
          (go_wp2_with fail; refine (nanw_ok _).mono ?_; rintro e w2 ⟨rfl, hb2⟩; obtain ⟨hc2, hf2, hz2⟩ := ext_facts hb2; (try simp at hz2); clear hc2 hf2)
          go_wp2
          exact bodyPost_ret (v := .tuple #[.float .f64 9221120237041090561, .int .i64 3, .bool true]) (by simp [results, Tryz.results130, go_sem, *]) rfl ⟨9221120237041090561, 3, true, rfl, fun _ => hlen, (by repeat (first | with_reducible exact Below.refl _ _ | with_reducible assumption | ((with_reducible refine Below.setCell ?_ ?_ _); rotate_left; (simp; try omega)) | (with_reducible refine Ext.tr ?_ (by with_reducible assumption)) | (with_reducible refine Ext.al ?_ _) | (with_reducible refine below_drewN ?_ _) | (with_reducible refine Below.drew ?_)))⟩
        · have e3 : ((r : Int) == 3) = false := by rw [beq_eq_false_iff_ne]; omega
          clear hall HW
          go_wp2
          exact bodyPost_ret (v := .tuple #[.float .f64 0, .int .i64 0, .bool false]) (by simp [results, Tryz.results130, go_sem, *]) rfl ⟨0, 0, false, rfl, by simp, (by repeat (first | with_reducible exact Below.refl _ _ | with_reducible assumption | ((with_reducible refine Below.setCell ?_ ?_ _); rotate_left; (simp; try omega)) | (with_reducible refine Ext.tr ?_ (by with_reducible assumption)) | (with_reducible refine Ext.al ?_ _) | (with_reducible refine below_drewN ?_ _) | (with_reducible refine Below.drew ?_)))⟩
    · have j1 : (c == 110) = false := by rw [beq_eq_false_iff_ne]; omega
      have j2 : (c == 78) = false := by rw [beq_eq_false_iff_ne]; omega
      go_enter Tryz.func130, Tryz.ntmps130
      go_wp2
      exact bodyPost_ret (v := .tuple #[.float .f64 0, .int .i64 0, .bool false]) (by simp [results, Tryz.results130, go_sem, *]) rfl ⟨0, 0, false, rfl, by simp, (by repeat (first | with_reducible exact Below.refl _ _ | with_reducible assumption | ((with_reducible refine Below.setCell ?_ ?_ _); rotate_left; (simp; try omega)) | (with_reducible refine Ext.tr ?_ (by with_reducible assumption)) | (with_reducible refine Ext.al ?_ _) | (with_reducible refine below_drewN ?_ _) | (with_reducible refine Below.drew ?_)))⟩

set_option maxHeartbeats 3200000 in
set_option maxRecDepth 1000000 in
theorem readFloat_word (s : ByteArray) (w : World) (hs : s.size ≤ 1000000000) (hw : wordT s = true) :
    Calls Tryz.prog 131 #[.string s] w (Gives w (.tuple #[.int .u64 0, .int .i64 0, .bool false, .bool false, .bool false, .int .i64 0, .bool false])) := by
  obtain ⟨h0, g1, g2, g3, g4⟩ := letter_first hw
  have g5 : (((s[0]'h0).toNat : Int) == 43) = false := by rw [beq_eq_false_iff_ne]; omega
  have g6 : (((s[0]'h0).toNat : Int) == 48) = false := by rw [beq_eq_false_iff_ne]; omega
  have g7 : (((s[0]'h0).toNat : Int) == 95) = false := by
    rw [beq_eq_false_iff_ne]
    intro e
    have hl := hw
    unfold wordT at hl
    rw [Bool.and_eq_true] at hl
    have hb := List.all_eq_true.1 hl.1 _ (List.mem_of_getElem? (byte_at h0))
    have hi := loB_int (s[0]'h0)
    rw [e] at hi
    simp only [letB, Bool.not_eq_true', Bool.or_eq_false_iff, decide_eq_false_iff_not] at hb
    simp at hi
    omega
  clear hw
  have hE : ¬ s = ByteArray.empty := by rintro rfl; exact absurd h0 (by decide)
  by_cases h3 : 2 < s.size
  all_goals
    go_enter Tryz.func131, Tryz.ntmps131
    go_wp2
    go_step3
    go_wp2
    go_step3
    go_wp2
    go_loop [2, 5, 7, 14] (fun m t i d => m = .int .u64 0 ∧ t = .bool false ∧ i = .int .i64 0 ∧ d = .bool false) (fun _ _ i _ => 1 - (intOf i).toNat)
    case atStart => exact ⟨rfl, rfl, rfl, rfl⟩
    case round =>
      obtain ⟨rfl, rfl, rfl, rfl⟩ := hrel
      go_wp2
      exact bodyPost_ret (v := .tuple #[.int .u64 0, .int .i64 0, .bool false, .bool false, .bool false, .int .i64 0, .bool false]) (by simp [results, Tryz.results131, go_sem, *]) rfl ⟨rfl, (by repeat (first | with_reducible exact Below.refl _ _ | with_reducible assumption | ((with_reducible refine Below.setCell ?_ ?_ _); rotate_left; (simp; try omega)) | (with_reducible refine Ext.tr ?_ (by with_reducible assumption)) | (with_reducible refine Ext.al ?_ _) | (with_reducible refine below_drewN ?_ _) | (with_reducible refine Below.drew ?_)))⟩

/-- The error of a text that is no number, of the inner package. -/
abbrev synE : Value := .iface 131 (.int .i64 2)

/-- What atof64 says of a word: a number of a part of it, or an error. -/
def AtofOf (s : ByteArray) (w : World) (e : Ending) (w' : World) : Prop := ∃ (f n : Nat) (v : Value), e = .returned (.tuple #[.float .f64 f, .int .i64 (n : Int), v]) ∧ n < s.size ∧ (v = .nilIface ∨ v = synE) ∧ Ext w w'

set_option maxHeartbeats 3200000 in
theorem atof64_word (s : ByteArray) (w : World) (hs : s.size ≤ 1000000000) (hw : wordT s = true) :
    Calls Tryz.prog 110 #[.string s] w (AtofOf s w) := by
  have HS := Lib.hid (fun w' => special_word s w' hs hw)
  have HR := Lib.hid (fun w' => readFloat_word s w' hs hw)
  obtain ⟨_, _, hsz⟩ := word_first hw
  clear hw
  go_enter Tryz.func110, Tryz.ntmps110
  go_wp2_with fail
  refine (HS.out _).mono ?_
  rintro e w1 ⟨f, n, b, rfl, hn, hb1⟩
  cases b
  · clear hn
    go_wp2_with fail
    (go_wp2_with fail; refine (HR.out _).mono ?_; rintro e w2 ⟨rfl, hb2⟩; obtain ⟨hc2, hf2, hz2⟩ := ext_facts hb2; (try simp at hz2); clear hc2 hf2)
    go_wp2
    exact bodyPost_ret (v := .tuple #[.float .f64 0, .int .i64 0, synE]) (by simp [results, Tryz.results110, go_sem, *]) rfl ⟨0, 0, synE, rfl, by omega, Or.inr rfl, (by repeat (first | with_reducible exact Below.refl _ _ | with_reducible assumption | ((with_reducible refine Below.setCell ?_ ?_ _); rotate_left; (simp; try omega)) | (with_reducible refine Ext.tr ?_ (by with_reducible assumption)) | (with_reducible refine Ext.al ?_ _) | (with_reducible refine below_drewN ?_ _) | (with_reducible refine Below.drew ?_)))⟩
  · have hn' := hn rfl
    clear hn
    go_wp2
    exact bodyPost_ret (v := .tuple #[.float .f64 f, .int .i64 (n : Int), .nilIface]) (by simp [results, Tryz.results110, go_sem, *]) rfl ⟨f, n, .nilIface, rfl, hn', Or.inl rfl, (by repeat (first | with_reducible exact Below.refl _ _ | with_reducible assumption | ((with_reducible refine Below.setCell ?_ ?_ _); rotate_left; (simp; try omega)) | (with_reducible refine Ext.tr ?_ (by with_reducible assumption)) | (with_reducible refine Ext.al ?_ _) | (with_reducible refine below_drewN ?_ _) | (with_reducible refine Below.drew ?_)))⟩

set_option maxHeartbeats 800000 in
theorem prefix_word (s : ByteArray) (w : World) (hs : s.size ≤ 1000000000) (hw : wordT s = true) :
    Calls Tryz.prog 98 #[.string s, .int .i64 64] w (AtofOf s w) := by
  have HS := Lib.hid (fun w' => atof64_word s w' hs hw)
  clear hw
  go_enter Tryz.func98, Tryz.ntmps98
  go_wp2_with fail
  refine (HS.out _).mono ?_
  rintro e w1 ⟨f, n, v, rfl, hn, hv, hb1⟩
  go_wp2
  exact bodyPost_ret (v := .tuple #[.float .f64 f, .int .i64 (n : Int), v]) (by simp [results, Tryz.results98, go_sem, *]) rfl ⟨f, n, v, rfl, hn, hv, (by repeat (first | with_reducible exact Below.refl _ _ | with_reducible assumption | ((with_reducible refine Below.setCell ?_ ?_ _); rotate_left; (simp; try omega)) | (with_reducible refine Ext.tr ?_ (by with_reducible assumption)) | (with_reducible refine Ext.al ?_ _) | (with_reducible refine below_drewN ?_ _) | (with_reducible refine Below.drew ?_)))⟩

set_option maxHeartbeats 800000 in
theorem inner_word (s : ByteArray) (w : World) (hs : s.size ≤ 1000000000) (hw : wordT s = true) :
    Calls Tryz.prog 84 #[.string s, .int .i64 64] w (Gives w (.tuple #[.float .f64 0, synE])) := by
  have HS := Lib.hid (fun w' => prefix_word s w' hs hw)
  clear hw
  go_enter Tryz.func84, Tryz.ntmps84
  go_wp2_with fail
  refine (HS.out _).mono ?_
  rintro e w1 ⟨f, n, v, rfl, hn, hv, hb1⟩
  have hne : ((n : Int) != (s.size : Int)) = true := by rw [bne_iff_ne]; omega
  clear hv
  go_wp2
  exact bodyPost_ret (v := .tuple #[.float .f64 0, synE]) (by simp [results, Tryz.results84, go_sem, *]) rfl ⟨rfl, (by repeat (first | with_reducible exact Below.refl _ _ | with_reducible assumption | ((with_reducible refine Below.setCell ?_ ?_ _); rotate_left; (simp; try omega)) | (with_reducible refine Ext.tr ?_ (by with_reducible assumption)) | (with_reducible refine Ext.al ?_ _) | (with_reducible refine below_drewN ?_ _) | (with_reducible refine Below.drew ?_)))⟩
end Go.Proofs.YtlbhebmjdaaglaaGreatDoor
