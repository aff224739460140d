/-
  MAX: what both sides say is the same.
-/
import Derived.Test.YtbehdafigmlnfaaGreatDoorMd
import Derived.Test.YtbehdafigmlnfaaGreatDoorGr
namespace Go.Proofs.YtbehdafigmlnfaaGreatDoor
set_option linter.unusedSimpArgs false
set_option linter.unusedVariables false
open Go Go.RowKit
set_option maxRecDepth 100000

noncomputable def zfM (y : Iv) : Option Int := if y.k = 1 then some (zdec y.f) else none
noncomputable def zxI (y : Iv) : Int := if y.k = 1 then zdec y.f else if y.k = 3 then (if y.f = 0 then 0 else 16) else 0

/-- What is sure of a cell: its value, and what it gives. -/
theorem item_cellM (x : Sc) (h : ItemSc x) (h6 : x.k ≠ 6) : IvOk (gI x) ∧ Mz (gI x) (zfM (gI x)) ∧ zfM (gI x) = (if x.k = 1 then some (six x) else none) := by
  rcases h with rfl | ⟨Z, ⟨h, ht, hZ⟩ | rfl⟩ | ⟨t, rfl⟩ | rfl | rfl | ⟨t, rfl⟩
  · exact ⟨Or.inl rfl, rfl, rfl⟩
  · have hb := h.six_le
    have hd := zdec_f16 hb.1 hb.2
    rw [gI_num h, if_pos h.k]
    have e : zfM ⟨1, f16 (six x), ⟨#[]⟩⟩ = some (six x) := by unfold zfM; rw [if_pos rfl]; exact congrArg some hd
    rw [e]
    exact ⟨Or.inr (Or.inl ⟨_, rfl, tame_f16 (by omega) (by omega)⟩), ⟨six x, rfl, hb.1, hb.2, rfl⟩, rfl⟩
  · exact absurd rfl h6
  · exact ⟨Or.inr (Or.inr (Or.inl ⟨t, rfl⟩)), rfl, rfl⟩
  · exact ⟨Or.inr (Or.inr (Or.inr (Or.inl rfl))), rfl, rfl⟩
  · exact ⟨Or.inr (Or.inr (Or.inr (Or.inr (Or.inl rfl)))), rfl, rfl⟩
  · exact ⟨Or.inr (Or.inr (Or.inr (Or.inr (Or.inr ⟨t, rfl⟩)))), rfl, rfl⟩

/-- What is sure of a single value that members takes. -/
theorem item_single (x : Sc) (h : ItemSc x) (hk : (x.k == 1 || x.k == 3 || x.k == 4) = true) : SingOk (gI x) (zxI (gI x)) ∧ (x.k ≠ 4 → zxI (gI x) = six (ownOf x)) ∧ (x.k = 4 → gI x = ⟨4, 0, x.t⟩) ∧ (x.k ≠ 4 → (gI x).k ≠ 4) := by
  rcases h with rfl | ⟨Z, ⟨h, ht, hZ⟩ | rfl⟩ | ⟨t, rfl⟩ | rfl | rfl | ⟨t, rfl⟩
  · cases hk
  · have hb := h.six_le
    have hd := zdec_f16 hb.1 hb.2
    have ho : ownOf x = x := if_pos h.k
    rw [gI_num h, ho]
    have e : zxI ⟨1, f16 (six x), ⟨#[]⟩⟩ = six x := by unfold zxI; rw [if_pos rfl]; exact hd
    rw [e]
    exact ⟨Or.inl ⟨rfl, hb⟩, fun _ => rfl, ⟨fun h4 => absurd (h.k.symm.trans h4) (by decide), fun _ => (show (1 : Int) ≠ 4 by decide)⟩⟩
  · cases hk
  · cases hk
  · exact ⟨Or.inr (Or.inl ⟨rfl, rfl⟩), fun _ => rfl, (fun h4 => by cases h4), fun _ => by decide⟩
  · exact ⟨Or.inr (Or.inr (Or.inl ⟨rfl, rfl⟩)), fun _ => rfl, (fun h4 => by cases h4), fun _ => by decide⟩
  · exact ⟨Or.inr (Or.inr (Or.inr ⟨t, rfl, rfl⟩)), fun h4 => absurd rfl h4, fun _ => rfl, fun h4 => absurd rfl h4⟩

theorem maxI_map {α : Type} (zf : α → Option Int) (xs : List α) (m : Option Int) : maxI zf xs m = maxI id (xs.map zf) m := by
  unfold maxI; rw [List.foldl_map]; rfl

theorem max_of_mem (L : List (Option Int)) (outs : List Sc) (h : ∀ y, some y ∈ L ↔ ∃ x ∈ outs, six x = y) (want : Sc) (hw : MaxP outs want) : (maxI id L none).getD 0 = six want := by
  obtain ⟨s1, s2⟩ := maxI_spec id L none
  cases hr : maxI id L none with
  | none =>
    obtain ⟨_, hn⟩ := s1 hr
    rcases hw with ⟨_, rfl⟩ | ⟨hm, _⟩
    · rfl
    · have := hn _ ((h (six want)).2 ⟨want, hm, rfl⟩)
      cases this
  | some r =>
    obtain ⟨q1, _, q3⟩ := s2 r hr
    have hin : some r ∈ L := by
      rcases q1 with q1 | ⟨x, hx, e⟩
      · cases q1
      · have e : x = some r := e
        rwa [← e]
    obtain ⟨x, hx, e⟩ := (h r).1 hin
    rcases hw with ⟨h0, rfl⟩ | ⟨hm, hle⟩
    · rw [h0] at hx; cases hx
    · have h1 := hle x hx
      have h2 := q3 _ ((h (six want)).2 ⟨want, hm, rfl⟩) (six want) rfl
      show r = six want
      omega

theorem max_law (cells xs : List Sc) (hc : ∀ x ∈ cells, ItemSc x ∧ x.k ≠ 6) (hs : ∀ x ∈ xs, ItemSc x ∧ (x.k == 1 || x.k == 3 || x.k == 4) = true ∧ x.k ≠ 4) (want : Sc) (hw : MaxP ((cells.filter fun x => x.k == 1) ++ xs.map ownOf) want) :
    maxT zfM zxI (cells.map gI) (xs.map gI) = six want := by
  unfold maxT
  rw [maxI_map (fun x => some (zxI x)), maxI_map zfM, ← maxI_append]
  refine max_of_mem _ _ (fun y => ?_) want hw
  rw [List.mem_append, List.map_map, List.map_map, List.mem_map, List.mem_map]
  constructor
  · rintro (⟨x, hx, e⟩ | ⟨x, hx, e⟩)
    · have h := (item_cellM x (hc x hx).1 (hc x hx).2).2.2
      have e : zfM (gI x) = some y := e
      rw [h] at e
      by_cases hk : x.k = 1
      · rw [if_pos hk] at e
        exact ⟨x, List.mem_append_left _ (List.mem_filter.2 ⟨hx, by simp [hk]⟩), Option.some.inj e⟩
      · rw [if_neg hk] at e; cases e
    · have h := (item_single x (hs x hx).1 (hs x hx).2.1).2.1 (hs x hx).2.2
      have e : zxI (gI x) = y := Option.some.inj e
      exact ⟨ownOf x, List.mem_append_right _ (List.mem_map.2 ⟨x, hx, rfl⟩), by rw [← h, e]⟩
  · rintro ⟨x, hx, e⟩
    rcases List.mem_append.1 hx with hx | hx
    · obtain ⟨h1, h2⟩ := List.mem_filter.1 hx
      have h := (item_cellM x (hc x h1).1 (hc x h1).2).2.2
      rw [if_pos (by simpa using h2)] at h
      exact Or.inl ⟨x, h1, by show zfM (gI x) = _; rw [h, e]⟩
    · obtain ⟨z, hz, rfl⟩ := List.mem_map.1 hx
      have h := (item_single z (hs z hz).1 (hs z hz).2.1).2.1 (hs z hz).2.2
      exact Or.inr ⟨z, hz, by show some (zxI (gI z)) = _; rw [h, e]⟩
end Go.Proofs.YtbehdafigmlnfaaGreatDoor
