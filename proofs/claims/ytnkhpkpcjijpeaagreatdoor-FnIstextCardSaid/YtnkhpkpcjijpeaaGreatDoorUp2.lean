/-
  UPPER: the reference's side.
-/
import Derived.Test.YtnkhpkpcjijpeaaGreatDoorUp
namespace Go.Proofs.YtnkhpkpcjijpeaaGreatDoor
set_option linter.unusedSimpArgs false
set_option linter.unusedVariables false
open Go Go.RowKit
set_option maxRecDepth 100000

/-- A text as a value. -/
abbrev txtSc (s : ByteArray) : Sc := ⟨2, 0, 0, s⟩

def scells (s : ByteArray) : List Value := [.string s]
theorem scells_len (s : ByteArray) : (scells s).length = 1 := rfl
theorem scells_one (s : ByteArray) : ∀ u ∈ scells s, u.oneCell' = true := by
  intro u hu
  have e : u = .string s := by simpa [scells] using hu
  subst e; rfl
theorem infoStr : (Tryz.prog.info? 9).map (fun i => (i.zero, i.size, i.bytes)) = some (some (.string ⟨#[]⟩), 1, 16) := by kernel_rfl

set_option maxHeartbeats 400000 in
theorem asText_text (n d : Int) (s : ByteArray) (w : World) (hs : s.size ≤ 1000000000) (ha : asciiT s = true) : Calls Tryz.prog 128 #[Sc.val ⟨2, n, d, s⟩] w (Gives w (Sc.val ⟨2, n, d, s⟩)) := by
  have h := fun w' => ascii_ok s w' hs
  rw [ha] at h
  have H := Lib.hid h; clear h ha
  go_enter Tryz.func128, Tryz.ntmps128
  (go_wp2_with fail; refine (H.out _).mono ?_; rintro e w1 ⟨rfl, hb1⟩; obtain ⟨hc1, hf1, hz1⟩ := ext_facts hb1; (try simp at hz1); (have hq1_0 : w.heap.size < w1.heap.size := by omega); (have hl1_0 : w.heap.size ≤ w1.heap.size := by omega); (have hr1_0 := fun o => hc1 (w.heap.size) o (by first | omega | (simp; done) | (simp; omega))); (have hs1_0 := fun o => hf1 (w.heap.size) o (by first | omega | (simp; done) | (simp; omega))); (try simp (disch := first | omega | (simp; omega)) only [World.cell?_alloc_past, World.cell?_drew] at hr1_0); (try simp (disch := first | omega | (simp; omega)) only [World.frozen?_alloc_past, World.frozen?_drew] at hs1_0); (have hq1_1 : w.heap.size + 1 < w1.heap.size := by omega); (have hl1_1 : w.heap.size + 1 ≤ w1.heap.size := by omega); (have hr1_1 := fun o => hc1 (w.heap.size + 1) o (by first | omega | (simp; done) | (simp; omega))); (have hs1_1 := fun o => hf1 (w.heap.size + 1) o (by first | omega | (simp; done) | (simp; omega))); (try simp (disch := first | omega | (simp; omega)) only [World.cell?_alloc_past, World.cell?_drew] at hr1_1); (try simp (disch := first | omega | (simp; omega)) only [World.frozen?_alloc_past, World.frozen?_drew] at hs1_1); clear hc1 hf1)
  go_wp2
  exact bodyPost_ret (v := Sc.val ⟨2, n, d, s⟩) (by simp [results, Tryz.results128, go_sem, *]) rfl ⟨rfl, (by repeat (first | with_reducible exact Below.refl _ _ | with_reducible assumption | ((with_reducible refine Below.setCell ?_ ?_ _); rotate_left; (simp; try omega)) | (with_reducible refine Ext.tr ?_ (by with_reducible assumption)) | (with_reducible refine Ext.al ?_ _) | (with_reducible refine below_drewN ?_ _) | (with_reducible refine Below.drew ?_)))⟩

set_option maxHeartbeats 1600000 in
/-- texts of texts of which something is said: the texts. -/
theorem texts_ok (xs : List Sc) (b o c : Nat) (w : World) (hl : xs.length ≤ 1000000000) (hx : Lie w b o xs) (hne : xs ≠ []) (hk : ∀ x ∈ xs, x.k = 2 ∧ x.t.size ≤ 1000000000 ∧ asciiT x.t = true) :
    Calls Tryz.prog 187 #[.slice (some ⟨b, o, none⟩) xs.length c] w fun e w' => ∃ v, e = .returned (.tuple #[v, zeroVal, .bool true]) ∧ GOwns scells 1 9 w' w.heap.size v (xs.map (·.t)) ∧ Ext w w' := by
  have HX := Lib.hid hx; clear hx
  have HK := Lib.hid hk; clear hk
  have HNE := Lib.hid hne; clear hne
  go_enter Tryz.func187, Tryz.ntmps187
  go_wp2
  go_loopw [5, 6] (fun v i wr => ∃ k : Nat, k ≤ xs.length ∧ i = .int .i64 k ∧ Ext (w.alloc (.cells #[.int .i64 0, .int .i64 0, .int .i64 0, .string ⟨#[]⟩, .slice none 0 0] 27)) wr ∧ Owns wr (w.heap.size + 1) v (xs.take k)) (fun _ i _ => xs.length - (intOf i).toNat)
  case atStart => exact ⟨0, Nat.zero_le _, rfl, Ext.rf _, Owns.nil _ _⟩
  case round =>
    obtain ⟨k, hk, rfl, hb, hown⟩ := hrel
    have HO := Lib.hid hown; clear hown
    have hb0 := ((Ext.rf w).al _).tr hb
    have hsz := hb.size
    simp only [World.size_alloc] at hsz
    by_cases hlt : k < xs.length
    · obtain ⟨x, Hx⟩ := elem_at hlt
      obtain ⟨c0, c1, c2, c3, c4⟩ := (HX.out.ext hb0) k x Hx.out
      have hx1 := HK.out x (mem_at Hx)
      have hat := fun w' => asText_text x.n x.d x.t w' hx1.2.1 hx1.2.2
      have hxe : Sc.val ⟨2, x.n, x.d, x.t⟩ = x.val := by obtain ⟨k, n, d, t⟩ := x; have : k = 2 := hx1.1; subst this; rfl
      rw [hxe] at hat
      have HAT := Lib.hid hat; clear hat hxe hx1
      go_wp2_with fail
      refine (HAT.out _).mono ?_
      rintro e w1 ⟨rfl, hb1⟩
      have hb2 := hb.tr hb1
      have hown1 := Lib.hid (HO.out.ext hb1)
      have hsz2 := hb2.size
      simp only [World.size_alloc] at hsz2
      go_wp2_with (at_builtin; refine append_vals rfl _ _ rfl (w.heap.size + 1) _ (xs.take k) rfl (hown1.out.alloc _) w1.heap.size 0 1 [x] rfl (lie_one w1 x) (by simp; omega) (by simp; omega) ?_; intro v' w2 hown2 hg2)
      have hb3 : Ext (w.alloc (.cells #[.int .i64 0, .int .i64 0, .int .i64 0, .string ⟨#[]⟩, .slice none 0 0] 27)) w2 := Below.grown (hb2.al _) hg2 (by simp; omega) (by simp only [World.size_alloc]; exact hown1.out.below)
      have HO2 := Lib.hid hown2; clear hown2
      go_roundw
      case rel => exact ⟨k + 1, by omega, by go_num, hb3, by rw [take_succ_at Hx]; exact HO2.out⟩
      case measure => simp [intOf]; omega
    · have hown3 := HO.out
      rw [List.take_of_length_le (by omega)] at hown3
      obtain ⟨g, cap, hv, hg, hlie⟩ := hown3.lie HNE.out
      have HV := Lib.hid hv; clear hv
      have HL := Lib.hid hlie; clear hlie hown3
      obtain ⟨hcA, hfA, hzA⟩ := ext_facts hb
      go_wp2_with fail
      rw [HV.out]
      refine (first_none xs g 0 cap _ hl HL.out HNE.out (fun x h => by rw [(HK.out x h).1]; decide)).mono ?_
      rintro e w2 ⟨rfl, hb4⟩
      have hb5 := hb.tr hb4
      have HL2 := Lib.hid (HL.out.ext hb4)
      have hsz3 := hb5.size
      simp only [World.size_alloc] at hsz3
      have hglt : g < w2.heap.size := by
        obtain ⟨x, Hx⟩ := elem_at (show 0 < xs.length by cases xs with | nil => exact absurd rfl HNE.out | cons => simp)
        exact lt_of_cell ((HL2.out) 0 x Hx.out).1
      clear hcA hfA
      go_wp2
      go_loopw [9, 10] (fun v i wq => ∃ j : Nat, j ≤ xs.length ∧ i = .int .i64 j ∧ Ext (w2.alloc (.cells #[.int .i64 0, .int .i64 0, .int .i64 0, .string ⟨#[]⟩, .slice none 0 0] 27)) wq ∧ GOwns scells 1 9 wq (w2.heap.size + 1) v ((xs.take j).map (·.t))) (fun _ i _ => xs.length - (intOf i).toNat)
      case atStart => exact ⟨0, Nat.zero_le _, rfl, Ext.rf _, GOwns.nil _ _⟩
      case round =>
        obtain ⟨j, hj, rfl, hbq, hownq⟩ := hrel
        have HQ := Lib.hid hownq; clear hownq
        have hszq := hbq.size
        simp only [World.size_alloc] at hszq
        have hbq2 := ((Ext.rf w2).al _).tr hbq
        by_cases hjlt : j < xs.length
        · obtain ⟨x, Hx⟩ := elem_at hjlt
          obtain ⟨c0, c1, c2, c3, c4⟩ := Lie.head (HL2.out.ext hbq2) Hx.out
          go_wp2_with (at_builtin; refine gappend (cells := scells) (z := 1) (ty := 9) (by decide) scells_len scells_one infoStr rfl Tryz.underlying31 (by decide) rfl _ _ rfl (w2.heap.size + 1) _ ((xs.take j).map (·.t)) rfl (HQ.out.alloc _) wr.heap.size 0 1 [x.t] rfl (glie_one wr x.t _ _ rfl) (by simp; omega) (by simp; omega) ?_; intro v' w3 hown4 hg4)
          have hb6 : Ext (w2.alloc (.cells #[.int .i64 0, .int .i64 0, .int .i64 0, .string ⟨#[]⟩, .slice none 0 0] 27)) w3 := Below.grown (hbq.al _) hg4 (by simp; omega) (by simp only [World.size_alloc]; exact HQ.out.below)
          have HO4 := Lib.hid hown4; clear hown4
          go_roundw
          case rel => exact ⟨j + 1, by omega, by go_num, hb6, by rw [map_take_succ Hx]; exact HO4.out⟩
          case measure => simp [intOf]; omega
        · have hfin := HQ.out
          rw [List.take_of_length_le (by omega)] at hfin
          have HF := Lib.hid hfin; clear hfin
          have hb7 := hb5.tr hbq2
          obtain ⟨hcB, hfB, hzB⟩ := ext_facts hb7
          obtain ⟨hcC, hfC, hzC⟩ := ext_facts hbq
          have hr1 := fun o => hcB w.heap.size o (by simp)
          have hs1 := fun o => hfB w.heap.size o (by simp)
          have hr2 := fun o => hcC w2.heap.size o (by simp)
          have hs2 := fun o => hfC w2.heap.size o (by simp)
          have hq1 : w.heap.size < wr.heap.size := by omega
          have hq2 : w2.heap.size < wr.heap.size := by omega
          have hq3 : w.heap.size ≤ wr.heap.size := by omega
          have hq4 : w2.heap.size ≤ wr.heap.size := by omega
          clear hcB hfB hcC hfC
          go_wp2
          refine bodyPost_ret (v := .tuple #[u9, zeroVal, .bool true]) (by simp [results, Tryz.results187, go_sem, *]) rfl ⟨_, rfl, ?_, ?_⟩
          · refine GOwns.mono (B := w2.heap.size + 1) ?_ (by omega)
            repeat (first | with_reducible exact HF.out | with_reducible assumption | (with_reducible refine GOwns.alloc ?_ _) | ((with_reducible refine GOwns.setBelow ?_ ?_ _); rotate_left; (simp; try omega)))
          · repeat (first | with_reducible exact Below.refl _ _ | with_reducible assumption | ((with_reducible refine Below.setCell ?_ ?_ _); rotate_left; (simp; try omega)) | (with_reducible refine Ext.tr ?_ (by with_reducible assumption)) | (with_reducible refine Ext.al ?_ _) | (with_reducible refine below_drewN ?_ _) | (with_reducible refine Below.drew ?_))

set_option maxHeartbeats 1600000 in
theorem ofText_upper (s : ByteArray) (b o c : Nat) (w : World) (hs : s.size ≤ 1000000000) (ha : asciiT s = true) (hx : Lie w b o [txtSc s]) :
    Calls Tryz.prog 94 #[.string ⟨#[85, 80, 80, 69, 82]⟩, .slice (some ⟨b, o, none⟩) 1 c] w (Gives w (Sc.val (txtSc ⟨(Lib.toUpperA s.data.toList).toArray⟩))) := by
  have HX := Lib.hid hx; clear hx
  have hconv := fun w => run_bytes_of_string (P := Tryz.prog) w 9 151 5 s Tryz.underlying9 Tryz.underlying151 Tryz.underlying5
  go_enter Tryz.func94, Tryz.ntmps94
  go_wp2_with fail
  refine (texts_ok [txtSc s] b o c _ (by simp) (HX.out.ext (by repeat (first | with_reducible exact Below.refl _ _ | with_reducible assumption | ((with_reducible refine Below.setCell ?_ ?_ _); rotate_left; (simp; try omega)) | (with_reducible refine Ext.tr ?_ (by with_reducible assumption)) | (with_reducible refine Ext.al ?_ _) | (with_reducible refine below_drewN ?_ _) | (with_reducible refine Below.drew ?_)))) (by simp) (fun x hm => by
    have e : x = txtSc s := by simpa using hm
    subst e; exact ⟨rfl, hs, ha⟩)).mono ?_
  rintro e w1 ⟨v, rfl, hown, hb1⟩
  obtain ⟨hc, hf, hz⟩ := ext_facts hb1; (try simp at hz); (try (have hq : w.heap.size < w1.heap.size := by omega)); (try (have hq' : w.heap.size ≤ w1.heap.size := by omega)); (try (have hr := fun o => hc w.heap.size o (by first | omega | (simp; done) | (simp; omega)))); (try (have hrf := fun o => hf w.heap.size o (by first | omega | (simp; done) | (simp; omega))))
  obtain ⟨g, cap, rfl, hg, hlie⟩ := hown.lie scells_len (by simp)
  have c0 := hlie 0 s rfl 0 _ rfl
  simp only [Nat.zero_mul, Nat.zero_add, Nat.add_zero] at c0
  have hglt : g < w1.heap.size := lt_of_cell c0
  have hxw : Ext w w1 := (by repeat (first | with_reducible exact Below.refl _ _ | with_reducible assumption | ((with_reducible refine Below.setCell ?_ ?_ _); rotate_left; (simp; try omega)) | (with_reducible refine Ext.tr ?_ (by with_reducible assumption)) | (with_reducible refine Ext.al ?_ _) | (with_reducible refine below_drewN ?_ _) | (with_reducible refine Below.drew ?_)))
  clear hown hlie
  go_wp2_with fail
  generalize hwz : w1.alloc (.cells #[.int .i64 0, .int .i64 0, .int .i64 0, .string ⟨#[]⟩, .slice none 0 0] 27) = wz at *
  have hwzs : wz.heap.size = w1.heap.size + 1 := by rw [← hwz]; simp
  have hwze : Ext w1 wz := by rw [← hwz]; exact (Ext.rf _).al _
  have hB : Bys ((wz.alloc (.cells (bytesRow s (grownCap wz s.size 0 5)) 5 ((bytesRow s (grownCap wz s.size 0 5)).size, (bytesRow s (grownCap wz s.size 0 5)).size + 1))).drew) (w1.heap.size + 1) s.data.toList := by
    have := Bys.new wz.drew s (grownCap wz s.size 0 5) 5
    rw [show wz.drew.heap.size = w1.heap.size + 1 from hwzs] at this
    exact this
  have hE : Ext w1 ((wz.alloc (.cells (bytesRow s (grownCap wz s.size 0 5)) 5 ((bytesRow s (grownCap wz s.size 0 5)).size, (bytesRow s (grownCap wz s.size 0 5)).size + 1))).drew) := by
    refine hwze.tr ?_
    repeat (first | with_reducible exact Below.refl _ _ | with_reducible assumption | ((with_reducible refine Below.setCell ?_ ?_ _); rotate_left; (simp; try omega)) | (with_reducible refine Ext.tr ?_ (by with_reducible assumption)) | (with_reducible refine Ext.al ?_ _) | (with_reducible refine below_drewN ?_ _) | (with_reducible refine Below.drew ?_))
  have hsz0 : w1.heap.size + 1 < ((wz.alloc (.cells (bytesRow s (grownCap wz s.size 0 5)) 5 ((bytesRow s (grownCap wz s.size 0 5)).size, (bytesRow s (grownCap wz s.size 0 5)).size + 1))).drew).heap.size := by simp; omega
  clear hconv
  generalize (wz.alloc (.cells (bytesRow s (grownCap wz s.size 0 5)) 5 ((bytesRow s (grownCap wz s.size 0 5)).size, (bytesRow s (grownCap wz s.size 0 5)).size + 1))).drew = w0 at *
  generalize grownCap wz s.size 0 5 = cap2 at *
  have hlen : s.data.toList.length = s.size := by simp
  rw [← mid_zero Lib.upperB s.data.toList] at hB
  have HB := Lib.hid hB; clear hB
  go_loopw [10] (fun i wr => ∃ k : Nat, k ≤ s.size ∧ i = .int .i64 k ∧ Ext w1 wr ∧ w1.heap.size + 1 < wr.heap.size ∧ Bys wr (w1.heap.size + 1) (mid Lib.upperB s.data.toList k)) (fun i _ => s.size - (intOf i).toNat)
  case atStart => exact ⟨0, Nat.zero_le _, rfl, hE, hsz0, HB.out⟩
  case round =>
    obtain ⟨k, hk, rfl, hb, hsz, hby⟩ := hrel
    have HY := Lib.hid hby; clear hby
    by_cases hlt : k < s.size
    · have hx := byte_at hlt
      obtain ⟨c0, f0⟩ := HY.out k _ (mid_at hx)
      have HX := Lib.hid hx; clear hx
      generalize s[k]'hlt = x at *
      go_wp2_with fail
      refine (upper_ok x _).mono ?_
      rintro e w2 ⟨rfl, hb1⟩
      have HY1 := Lib.hid (HY.out.ext hb1)
      obtain ⟨c1, f1⟩ := HY1.out k _ (mid_at HX.out)
      have hb2 := hb.tr hb1
      have hsz1 := hb1.size
      go_wp2
      go_roundw
      case rel =>
        refine ⟨k + 1, by omega, by go_num, ?_, ?_, ?_⟩
        · repeat (first | with_reducible exact Below.refl _ _ | with_reducible assumption | ((with_reducible refine Below.setCell ?_ ?_ _); rotate_left; (simp; try omega)) | (with_reducible refine Ext.tr ?_ (by with_reducible assumption)) | (with_reducible refine Ext.al ?_ _) | (with_reducible refine below_drewN ?_ _) | (with_reducible refine Below.drew ?_))
        · simp; omega
        · rw [mid_succ HX.out]
          exact HY1.out.set (by rw [mid_len]; omega) _
      case measure => simp [intOf]; omega
    · have hfin := HY.out
      rw [mid_all _ _ _ (by omega)] at hfin
      have hback := run_convert_bytes_back (P := Tryz.prog) wr 151 9 5 ⟨w1.heap.size + 1, 0, none⟩ cap2 (s.data.toList.map Lib.upperB) Tryz.underlying151 Tryz.underlying5 Tryz.underlying9 (fun j hj => by
        rw [add_zero]
        exact (hfin j _ (List.getElem?_eq_getElem hj)).1)
      rw [List.length_map, hlen] at hback
      clear hfin
      have hb9 := hxw.tr hb
      obtain ⟨hcB, hfB, hzB⟩ := ext_facts hb
      have hr9 := fun o => hcB w.heap.size o (by omega)
      have hs9 := fun o => hfB w.heap.size o (by omega)
      clear hcB hfB
      (go_wp2_with fail; refine (str_any _ _).mono ?_; rintro e w3 ⟨rfl, hb3⟩; obtain ⟨hc3, hf3, hz3⟩ := ext_facts hb3; (try simp at hz3); (have hq3_0 : w.heap.size < w3.heap.size := by omega); (have hl3_0 : w.heap.size ≤ w3.heap.size := by omega); (have hr3_0 := fun o => hc3 (w.heap.size) o (by first | omega | (simp; done) | (simp; omega))); (have hs3_0 := fun o => hf3 (w.heap.size) o (by first | omega | (simp; done) | (simp; omega))); (try simp (disch := first | omega | (simp; omega)) only [World.cell?_alloc_past, World.cell?_drew] at hr3_0); (try simp (disch := first | omega | (simp; omega)) only [World.frozen?_alloc_past, World.frozen?_drew] at hs3_0); clear hc3 hf3)
      go_wp2
      exact bodyPost_ret (v := Sc.val (txtSc ⟨(s.data.toList.map Lib.upperB).toArray⟩)) (by simp [results, Tryz.results94, go_sem, *]) rfl ⟨rfl, (by repeat (first | with_reducible exact Below.refl _ _ | with_reducible assumption | ((with_reducible refine Below.setCell ?_ ?_ _); rotate_left; (simp; try omega)) | (with_reducible refine Ext.tr ?_ (by with_reducible assumption)) | (with_reducible refine Ext.al ?_ _) | (with_reducible refine below_drewN ?_ _) | (with_reducible refine Below.drew ?_)))⟩

set_option maxHeartbeats 800000 in
theorem fitsChoices_UPPER (a : Option Addr) (n c : Nat) (w : World) : Calls Tryz.prog 50 #[.string ⟨#[85, 80, 80, 69, 82]⟩, .slice a n c] w (Gives w (.tuple #[.bool false, .bool false])) := by
  go_enter Tryz.func50, Tryz.ntmps50
  go_wp2
  go_ret2
  exact ⟨rfl, (by repeat (first | with_reducible exact Below.refl _ _ | with_reducible assumption | ((with_reducible refine Below.setCell ?_ ?_ _); rotate_left; (simp; try omega)) | (with_reducible refine Ext.tr ?_ (by with_reducible assumption)) | (with_reducible refine Ext.al ?_ _) | (with_reducible refine below_drewN ?_ _) | (with_reducible refine Below.drew ?_)))⟩

set_option maxHeartbeats 800000 in
theorem Stat_UPPER (a : Option Addr) (n c : Nat) (w : World) : Calls Tryz.prog 32 #[.string ⟨#[85, 80, 80, 69, 82]⟩, .slice a n c] w (Gives w (.tuple #[zeroVal, .bool false])) := by
  go_enter Tryz.func32, Tryz.ntmps32
  go_wp2
  exact bodyPost_ret (v := .tuple #[zeroVal, .bool false]) (by simp [results, Tryz.results32, go_sem, *]) rfl ⟨rfl, (by repeat (first | with_reducible exact Below.refl _ _ | with_reducible assumption | ((with_reducible refine Below.setCell ?_ ?_ _); rotate_left; (simp; try omega)) | (with_reducible refine Ext.tr ?_ (by with_reducible assumption)) | (with_reducible refine Ext.al ?_ _) | (with_reducible refine below_drewN ?_ _) | (with_reducible refine Below.drew ?_)))⟩

set_option maxHeartbeats 800000 in
theorem Criteria_UPPER (a : Option Addr) (n c : Nat) (w : World) : Calls Tryz.prog 33 #[.string ⟨#[85, 80, 80, 69, 82]⟩, .slice a n c] w (Gives w (.tuple #[zeroVal, .bool false])) := by
  go_enter Tryz.func33, Tryz.ntmps33
  go_wp2
  exact bodyPost_ret (v := .tuple #[zeroVal, .bool false]) (by simp [results, Tryz.results33, go_sem, *]) rfl ⟨rfl, (by repeat (first | with_reducible exact Below.refl _ _ | with_reducible assumption | ((with_reducible refine Below.setCell ?_ ?_ _); rotate_left; (simp; try omega)) | (with_reducible refine Ext.tr ?_ (by with_reducible assumption)) | (with_reducible refine Ext.al ?_ _) | (with_reducible refine below_drewN ?_ _) | (with_reducible refine Below.drew ?_)))⟩

set_option maxHeartbeats 800000 in
theorem Lookup_UPPER (a : Option Addr) (n c : Nat) (w : World) : Calls Tryz.prog 34 #[.string ⟨#[85, 80, 80, 69, 82]⟩, .slice a n c] w (Gives w (.tuple #[zeroVal, .bool false])) := by
  go_enter Tryz.func34, Tryz.ntmps34
  go_wp2
  exact bodyPost_ret (v := .tuple #[zeroVal, .bool false]) (by simp [results, Tryz.results34, go_sem, *]) rfl ⟨rfl, (by repeat (first | with_reducible exact Below.refl _ _ | with_reducible assumption | ((with_reducible refine Below.setCell ?_ ?_ _); rotate_left; (simp; try omega)) | (with_reducible refine Ext.tr ?_ (by with_reducible assumption)) | (with_reducible refine Ext.al ?_ _) | (with_reducible refine below_drewN ?_ _) | (with_reducible refine Below.drew ?_)))⟩

set_option maxHeartbeats 800000 in
theorem CallMath_UPPER (a : Option Addr) (n c : Nat) (w : World) : Calls Tryz.prog 35 #[.string ⟨#[85, 80, 80, 69, 82]⟩, .slice a n c] w (Gives w (.tuple #[zeroVal, .bool false])) := by
  go_enter Tryz.func35, Tryz.ntmps35
  go_wp2
  exact bodyPost_ret (v := .tuple #[zeroVal, .bool false]) (by simp [results, Tryz.results35, go_sem, *]) rfl ⟨rfl, (by repeat (first | with_reducible exact Below.refl _ _ | with_reducible assumption | ((with_reducible refine Below.setCell ?_ ?_ _); rotate_left; (simp; try omega)) | (with_reducible refine Ext.tr ?_ (by with_reducible assumption)) | (with_reducible refine Ext.al ?_ _) | (with_reducible refine below_drewN ?_ _) | (with_reducible refine Below.drew ?_)))⟩

set_option maxHeartbeats 800000 in
theorem callText_upper (s : ByteArray) (b o c : Nat) (w : World) (hs : s.size ≤ 1000000000) (ha : asciiT s = true) (hx : Lie w b o [txtSc s]) :
    Calls Tryz.prog 36 #[.string ⟨#[85, 80, 80, 69, 82]⟩, .slice (some ⟨b, o, none⟩) 1 c] w (Gives w (.tuple #[Sc.val (txtSc ⟨(Lib.toUpperA s.data.toList).toArray⟩), .bool true])) := by
  have HC := Lib.hid (fun w' h => ofText_upper s b o c w' hs ha (hx.ext h))
  clear hx ha hs
  generalize (⟨(Lib.toUpperA s.data.toList).toArray⟩ : ByteArray) = t at *
  go_enter Tryz.func36, Tryz.ntmps36
  (go_wp2_with fail; refine (HC.out _ (by repeat (first | with_reducible exact Below.refl _ _ | with_reducible assumption | ((with_reducible refine Below.setCell ?_ ?_ _); rotate_left; (simp; try omega)) | (with_reducible refine Ext.tr ?_ (by with_reducible assumption)) | (with_reducible refine Ext.al ?_ _) | (with_reducible refine below_drewN ?_ _) | (with_reducible refine Below.drew ?_)))).mono ?_; rintro e w1 ⟨rfl, hb1⟩; obtain ⟨hc1, hf1, hz1⟩ := ext_facts hb1; (try simp at hz1); (have hq1_0 : w.heap.size < w1.heap.size := by omega); (have hl1_0 : w.heap.size ≤ w1.heap.size := by omega); (have hr1_0 := fun o => hc1 (w.heap.size) o (by first | omega | (simp; done) | (simp; omega))); (have hs1_0 := fun o => hf1 (w.heap.size) o (by first | omega | (simp; done) | (simp; omega))); (try simp (disch := first | omega | (simp; omega)) only [World.cell?_alloc_past, World.cell?_drew] at hr1_0); (try simp (disch := first | omega | (simp; omega)) only [World.frozen?_alloc_past, World.frozen?_drew] at hs1_0); clear hc1 hf1)
  go_wp2
  exact bodyPost_ret (v := .tuple #[Sc.val (txtSc t), .bool true]) (by simp [results, Tryz.results36, go_sem, *]) rfl ⟨rfl, (by repeat (first | with_reducible exact Below.refl _ _ | with_reducible assumption | ((with_reducible refine Below.setCell ?_ ?_ _); rotate_left; (simp; try omega)) | (with_reducible refine Ext.tr ?_ (by with_reducible assumption)) | (with_reducible refine Ext.al ?_ _) | (with_reducible refine below_drewN ?_ _) | (with_reducible refine Below.drew ?_)))⟩

set_option maxHeartbeats 1600000 in
theorem callOver_text (s : ByteArray) (v : Sc) (a : Option Addr) (n c : Nat) (w : World)
    (h1 : ∀ w', Ext w w' → Calls Tryz.prog 30 #[.string s, .slice a n c] w' (Gives w' (.bool true)))
    (h2 : ∀ w', Calls Tryz.prog 32 #[.string s, .slice a n c] w' (Gives w' (.tuple #[zeroVal, .bool false])))
    (h3 : ∀ w', Calls Tryz.prog 33 #[.string s, .slice a n c] w' (Gives w' (.tuple #[zeroVal, .bool false])))
    (h4 : ∀ w', Calls Tryz.prog 34 #[.string s, .slice a n c] w' (Gives w' (.tuple #[zeroVal, .bool false])))
    (h5 : ∀ w', Calls Tryz.prog 35 #[.string s, .slice a n c] w' (Gives w' (.tuple #[zeroVal, .bool false])))
    (h6 : ∀ w', Ext w w' → Calls Tryz.prog 36 #[.string s, .slice a n c] w' (Gives w' (.tuple #[v.val, .bool true]))) :
    Calls Tryz.prog 21 #[.string s, .slice a n c, .slice a n c] w (Gives w v.val) := by
  have H1 := Lib.hid h1; clear h1
  have H2 := Lib.hid h2; clear h2
  have H3 := Lib.hid h3; clear h3
  have H4 := Lib.hid h4; clear h4
  have H5 := Lib.hid h5; clear h5
  have H6 := Lib.hid h6; clear h6
  go_enter Tryz.func21, Tryz.ntmps21
  (go_wp2_with fail; refine (H1.out _ (by repeat (first | with_reducible exact Below.refl _ _ | with_reducible assumption | ((with_reducible refine Below.setCell ?_ ?_ _); rotate_left; (simp; try omega)) | (with_reducible refine Ext.tr ?_ (by with_reducible assumption)) | (with_reducible refine Ext.al ?_ _) | (with_reducible refine below_drewN ?_ _) | (with_reducible refine Below.drew ?_)))).mono ?_; rintro e w1 ⟨rfl, hb1⟩; obtain ⟨hc1, hf1, hz1⟩ := ext_facts hb1; (try simp at hz1); (have hq1_0 : w.heap.size < w1.heap.size := by omega); (have hl1_0 : w.heap.size ≤ w1.heap.size := by omega); (have hr1_0 := fun o => hc1 (w.heap.size) o (by first | omega | (simp; done) | (simp; omega))); (have hs1_0 := fun o => hf1 (w.heap.size) o (by first | omega | (simp; done) | (simp; omega))); (try simp (disch := first | omega | (simp; omega)) only [World.cell?_alloc_past, World.cell?_drew] at hr1_0); (try simp (disch := first | omega | (simp; omega)) only [World.frozen?_alloc_past, World.frozen?_drew] at hs1_0); clear hc1 hf1)
  (go_wp2_with fail; refine (H2.out _).mono ?_; rintro e w2 ⟨rfl, hb2⟩; obtain ⟨hc2, hf2, hz2⟩ := ext_facts hb2; (try simp at hz2); (have hq2_0 : w.heap.size < w2.heap.size := by omega); (have hl2_0 : w.heap.size ≤ w2.heap.size := by omega); (have hr2_0 := fun o => hc2 (w.heap.size) o (by first | omega | (simp; done) | (simp; omega))); (have hs2_0 := fun o => hf2 (w.heap.size) o (by first | omega | (simp; done) | (simp; omega))); (try simp (disch := first | omega | (simp; omega)) only [World.cell?_alloc_past, World.cell?_drew] at hr2_0); (try simp (disch := first | omega | (simp; omega)) only [World.frozen?_alloc_past, World.frozen?_drew] at hs2_0); clear hc2 hf2)
  (go_wp2_with fail; refine (H3.out _).mono ?_; rintro e w3 ⟨rfl, hb3⟩; obtain ⟨hc3, hf3, hz3⟩ := ext_facts hb3; (try simp at hz3); (have hq3_0 : w.heap.size < w3.heap.size := by omega); (have hl3_0 : w.heap.size ≤ w3.heap.size := by omega); (have hr3_0 := fun o => hc3 (w.heap.size) o (by first | omega | (simp; done) | (simp; omega))); (have hs3_0 := fun o => hf3 (w.heap.size) o (by first | omega | (simp; done) | (simp; omega))); (try simp (disch := first | omega | (simp; omega)) only [World.cell?_alloc_past, World.cell?_drew] at hr3_0); (try simp (disch := first | omega | (simp; omega)) only [World.frozen?_alloc_past, World.frozen?_drew] at hs3_0); clear hc3 hf3)
  (go_wp2_with fail; refine (H4.out _).mono ?_; rintro e w4 ⟨rfl, hb4⟩; obtain ⟨hc4, hf4, hz4⟩ := ext_facts hb4; (try simp at hz4); (have hq4_0 : w.heap.size < w4.heap.size := by omega); (have hl4_0 : w.heap.size ≤ w4.heap.size := by omega); (have hr4_0 := fun o => hc4 (w.heap.size) o (by first | omega | (simp; done) | (simp; omega))); (have hs4_0 := fun o => hf4 (w.heap.size) o (by first | omega | (simp; done) | (simp; omega))); (try simp (disch := first | omega | (simp; omega)) only [World.cell?_alloc_past, World.cell?_drew] at hr4_0); (try simp (disch := first | omega | (simp; omega)) only [World.frozen?_alloc_past, World.frozen?_drew] at hs4_0); clear hc4 hf4)
  (go_wp2_with fail; refine (H5.out _).mono ?_; rintro e w5 ⟨rfl, hb5⟩; obtain ⟨hc5, hf5, hz5⟩ := ext_facts hb5; (try simp at hz5); (have hq5_0 : w.heap.size < w5.heap.size := by omega); (have hl5_0 : w.heap.size ≤ w5.heap.size := by omega); (have hr5_0 := fun o => hc5 (w.heap.size) o (by first | omega | (simp; done) | (simp; omega))); (have hs5_0 := fun o => hf5 (w.heap.size) o (by first | omega | (simp; done) | (simp; omega))); (try simp (disch := first | omega | (simp; omega)) only [World.cell?_alloc_past, World.cell?_drew] at hr5_0); (try simp (disch := first | omega | (simp; omega)) only [World.frozen?_alloc_past, World.frozen?_drew] at hs5_0); clear hc5 hf5)
  (go_wp2_with fail; refine (H6.out _ (by repeat (first | with_reducible exact Below.refl _ _ | with_reducible assumption | ((with_reducible refine Below.setCell ?_ ?_ _); rotate_left; (simp; try omega)) | (with_reducible refine Ext.tr ?_ (by with_reducible assumption)) | (with_reducible refine Ext.al ?_ _) | (with_reducible refine below_drewN ?_ _) | (with_reducible refine Below.drew ?_)))).mono ?_; rintro e w6 ⟨rfl, hb6⟩; obtain ⟨hc6, hf6, hz6⟩ := ext_facts hb6; (try simp at hz6); (have hq6_0 : w.heap.size < w6.heap.size := by omega); (have hl6_0 : w.heap.size ≤ w6.heap.size := by omega); (have hr6_0 := fun o => hc6 (w.heap.size) o (by first | omega | (simp; done) | (simp; omega))); (have hs6_0 := fun o => hf6 (w.heap.size) o (by first | omega | (simp; done) | (simp; omega))); (try simp (disch := first | omega | (simp; omega)) only [World.cell?_alloc_past, World.cell?_drew] at hr6_0); (try simp (disch := first | omega | (simp; omega)) only [World.frozen?_alloc_past, World.frozen?_drew] at hs6_0); clear hc6 hf6)
  go_wp2
  exact bodyPost_ret (v := v.val) (by simp [results, Tryz.results21, go_sem, *]) rfl ⟨rfl, (by repeat (first | with_reducible exact Below.refl _ _ | with_reducible assumption | ((with_reducible refine Below.setCell ?_ ?_ _); rotate_left; (simp; try omega)) | (with_reducible refine Ext.tr ?_ (by with_reducible assumption)) | (with_reducible refine Ext.al ?_ _) | (with_reducible refine below_drewN ?_ _) | (with_reducible refine Below.drew ?_)))⟩

set_option maxHeartbeats 800000 in
theorem fits_of_texts (s : ByteArray) (r q : Bool) (a : Option Addr) (n c : Nat) (w : World)
    (h1 : ∀ w', Ext w w' → Calls Tryz.prog 48 #[.string s, .slice a n c] w' (Gives w' (.tuple #[.bool false, .bool false])))
    (h2 : ∀ w', Ext w w' → Calls Tryz.prog 49 #[.string s, .slice a n c] w' (Gives w' (.tuple #[.bool r, .bool true]))) :
    Calls Tryz.prog 30 #[.string s, .slice a n c] w (Gives w (.bool r)) := by
  have H1 := Lib.hid h1; clear h1
  have H2 := Lib.hid h2; clear h2
  cases r
  all_goals
    go_enter Tryz.func30, Tryz.ntmps30
    go_wp2_with fail
    refine (H1.out _ (Ext.rf _)).mono ?_
    rintro e w1 ⟨rfl, hb1⟩
    go_wp2_with fail
    refine (H2.out _ hb1).mono ?_
    rintro e w2 ⟨rfl, hb2⟩
    go_wp2
    go_ret
    exact ⟨rfl, (by repeat (first | with_reducible exact Below.refl _ _ | with_reducible assumption | ((with_reducible refine Below.setCell ?_ ?_ _); rotate_left; (simp; try omega)) | (with_reducible refine Ext.tr ?_ (by with_reducible assumption)) | (with_reducible refine Ext.al ?_ _) | (with_reducible refine below_drewN ?_ _) | (with_reducible refine Below.drew ?_)))⟩
end Go.Proofs.YtnkhpkpcjijpeaaGreatDoor
