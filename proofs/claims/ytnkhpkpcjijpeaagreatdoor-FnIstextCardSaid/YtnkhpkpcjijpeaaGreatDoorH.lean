/-
  wholes: arguments as whole numbers.
-/
import Derived.Test.YtnkhpkpcjijpeaaGreatDoorW
import Derived.Test.YtnkhpkpcjijpeaaGreatDoorG
namespace Go.Proofs.YtnkhpkpcjijpeaaGreatDoor
set_option linter.unusedSimpArgs false
set_option linter.unusedVariables false
open Go Go.RowKit
set_option maxRecDepth 100000

def icells (n : Int) : List Value := [.int .i64 n]
theorem icells_len (n : Int) : (icells n).length = 1 := rfl
theorem icells_one (n : Int) : ∀ u ∈ icells n, u.oneCell' = true := by
  intro u hu
  have e : u = .int .i64 n := by simpa [icells] using hu
  subst e; rfl
theorem infoInt : (Tryz.prog.info? 3).map (fun i => (i.zero, i.size, i.bytes)) = some (some (.int .i64 0), 1, 8) := by kernel_rfl

set_option maxHeartbeats 800000 in
theorem wholes_ok (xs : List Sc) (b o c : Nat) (w : World) (hl : xs.length ≤ 1000000000) (hx : Lie w b o xs) (hne : xs ≠ []) (hk : ∀ x ∈ xs, x.k = 1 ∧ x.d = 1) :
    Calls Tryz.prog 172 #[.slice (some ⟨b, o, none⟩) xs.length c] w fun e w' => ∃ v, e = .returned (.tuple #[v, zeroVal, .bool true]) ∧ GOwns icells 1 3 w' w.heap.size v (xs.map (·.n)) ∧ Ext w w' := by
  have HX := Lib.hid hx; clear hx
  have HK := Lib.hid hk; clear hk
  have HNE := Lib.hid hne; clear hne
  go_enter Tryz.func172, Tryz.ntmps172
  go_wp2_with fail
  refine (numbers_ok xs b o c _ hl (HX.out.ext (by repeat (first | with_reducible exact Below.refl _ _ | with_reducible assumption | ((with_reducible refine Below.setCell ?_ ?_ _); rotate_left; (simp; try omega)) | (with_reducible refine Ext.tr ?_ (by with_reducible assumption)) | (with_reducible refine Ext.al ?_ _) | (with_reducible refine below_drewN ?_ _) | (with_reducible refine Below.drew ?_)))) HNE.out (fun x h => (HK.out x h).1)).mono ?_
  rintro e w1 ⟨v, rfl, hown, hb1⟩
  obtain ⟨hc, hf, hz⟩ := ext_facts hb1; (try simp at hz); (try (have hq : w.heap.size < w1.heap.size := by omega)); (try (have hq' : w.heap.size ≤ w1.heap.size := by omega)); (try (have hr := fun o => hc w.heap.size o (by first | omega | (simp; done) | (simp; omega)))); (try (have hrf := fun o => hf w.heap.size o (by first | omega | (simp; done) | (simp; omega))))
  obtain ⟨g, cap, rfl, hg, hlie⟩ := hown.lie HNE.out
  have HL := Lib.hid hlie; clear hlie hown

  have hglt : g < w1.heap.size := by
    obtain ⟨x, Hx⟩ := elem_at (show 0 < xs.length by cases xs with | nil => exact absurd rfl HNE.out | cons => simp)
    exact lt_of_cell ((HL.out) 0 x Hx.out).1
  have hxw : Ext w w1 := (by repeat (first | with_reducible exact Below.refl _ _ | with_reducible assumption | ((with_reducible refine Below.setCell ?_ ?_ _); rotate_left; (simp; try omega)) | (with_reducible refine Ext.tr ?_ (by with_reducible assumption)) | (with_reducible refine Ext.al ?_ _) | (with_reducible refine below_drewN ?_ _) | (with_reducible refine Below.drew ?_)))
  go_wp2
  go_loopw [8, 9] (fun v i wr => ∃ k : Nat, k ≤ xs.length ∧ i = .int .i64 k ∧ Ext (w1.alloc (.cells #[.int .i64 0, .int .i64 0, .int .i64 0, .string ⟨#[]⟩, .slice none 0 0] 27)) wr ∧ GOwns icells 1 3 wr (w1.heap.size + 1) v ((xs.take k).map (·.n))) (fun _ i _ => xs.length - (intOf i).toNat)
  case atStart => exact ⟨0, Nat.zero_le _, rfl, Ext.rf _, GOwns.nil _ _⟩
  case round =>
    obtain ⟨k, hk, rfl, hb, hown⟩ := hrel
    have HO := Lib.hid hown; clear hown
    have hsz := hb.size
    simp only [World.size_alloc] at hsz
    have hb1' := ((Ext.rf w1).al _).tr hb
    by_cases hlt : k < xs.length
    · obtain ⟨x, Hx⟩ := elem_at hlt
      obtain ⟨c0, c1, c2, c3, c4⟩ := Lie.head (HL.out.ext hb1') Hx.out
      have hx1 := (HK.out x (mem_at Hx)).2
      rw [hx1] at c2
      go_wp2_with (at_builtin; refine gappend (cells := icells) (z := 1) (ty := 3) (by decide) icells_len icells_one infoInt rfl Tryz.underlying129 (by decide) rfl _ _ rfl (w1.heap.size + 1) _ ((xs.take k).map (·.n)) rfl (HO.out.alloc _) wr.heap.size 0 1 [x.n] rfl (glie_one wr x.n _ _ rfl) (by simp; omega) (by simp; omega) ?_; intro v' w2 hown2 hg2)
      have hb3 : Ext (w1.alloc (.cells #[.int .i64 0, .int .i64 0, .int .i64 0, .string ⟨#[]⟩, .slice none 0 0] 27)) w2 := Below.grown (hb.al _) hg2 (by simp; omega) (by simp only [World.size_alloc]; exact HO.out.below)
      have HO2 := Lib.hid hown2; clear hown2
      go_roundw
      case rel => exact ⟨k + 1, by omega, by go_num, hb3, by rw [map_take_succ Hx]; exact HO2.out⟩
      case measure => simp [intOf]; omega
    · have hown3 := HO.out
      rw [List.take_of_length_le (by omega)] at hown3
      have HO3 := Lib.hid hown3; clear hown3
      obtain ⟨hcA, hfA, hzA⟩ := ext_facts hb
      have hr1 := fun o => hcA w.heap.size o (by simp; omega)
      have hr2 := fun o => hcA w1.heap.size o (by simp)
      have hs1 := fun o => hfA w.heap.size o (by simp; omega)
      have hs2 := fun o => hfA w1.heap.size o (by simp)
      have hq1 : w.heap.size < wr.heap.size := by omega
      have hq2 : w1.heap.size < wr.heap.size := by omega
      have hq3 : w.heap.size ≤ wr.heap.size := by omega
      have hq4 : w1.heap.size ≤ wr.heap.size := by omega
      clear hcA hfA hc hf
      go_wp2
      refine bodyPost_ret (v := .tuple #[u8, zeroVal, .bool true]) (by simp [results, Tryz.results172, go_sem, *]) rfl ⟨_, rfl, ?_, ?_⟩
      · refine GOwns.mono (B := w1.heap.size + 1) ?_ (by omega)
        repeat (first | with_reducible exact HO3.out | with_reducible assumption | (with_reducible refine GOwns.alloc ?_ _) | ((with_reducible refine GOwns.setBelow ?_ ?_ _); rotate_left; (simp; try omega)))
      · repeat (first | with_reducible exact Below.refl _ _ | with_reducible assumption | ((with_reducible refine Below.setCell ?_ ?_ _); rotate_left; (simp; try omega)) | (with_reducible refine Ext.tr ?_ (by with_reducible assumption)) | (with_reducible refine Ext.al ?_ _) | (with_reducible refine below_drewN ?_ _) | (with_reducible refine Below.drew ?_))
end Go.Proofs.YtnkhpkpcjijpeaaGreatDoor
