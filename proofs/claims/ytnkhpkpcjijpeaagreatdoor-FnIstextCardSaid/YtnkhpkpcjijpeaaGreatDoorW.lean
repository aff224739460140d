/-
  strict, wholes, two arguments.
-/
import Derived.Test.YtnkhpkpcjijpeaaGreatDoorDisp
import Derived.Test.YtnkhpkpcjijpeaaGreatDoorK
namespace Go.Proofs.YtnkhpkpcjijpeaaGreatDoor
set_option linter.unusedSimpArgs false
set_option linter.unusedVariables false
open Go Go.RowKit
set_option maxRecDepth 100000

set_option maxHeartbeats 800000 in
theorem strict_ok (xs : List Sc) (b o c : Nat) (w : World) (hl : xs.length ≤ 1000000000) (hx : Lie w b o xs) (hk : ∀ x ∈ xs, x.k = 1) :
    Calls Tryz.prog 178 #[.slice (some ⟨b, o, none⟩) xs.length c] w (Gives w (.bool true)) := by
  have HX := Lib.hid hx; clear hx
  have HK := Lib.hid hk; clear hk
  go_enter Tryz.func178, Tryz.ntmps178
  go_wp2
  go_loopw [3] (fun i wr => ∃ k : Nat, k ≤ xs.length ∧ i = .int .i64 k ∧ Ext w wr) (fun i _ => xs.length - (intOf i).toNat)
  case atStart => exact ⟨0, Nat.zero_le _, rfl, Below.refl _ _⟩
  case round =>
    obtain ⟨k, hk, rfl, hb⟩ := hrel
    by_cases hlt : k < xs.length
    · obtain ⟨x, Hx⟩ := elem_at hlt
      obtain ⟨c0, c1, c2, c3, c4⟩ := (HX.out.ext hb) k x Hx.out
      have hx1 := HK.out x (mem_at Hx)
      rw [hx1] at c0
      go_wp2
      go_roundw
      case rel => exact ⟨k + 1, by omega, by go_num, hb⟩
      case measure => simp [intOf]; omega
    · go_wp2
      go_ret
      exact ⟨rfl, hb⟩

theorem lie_two (w : World) (x y : Sc) : Lie (w.alloc (.cells #[.int .i64 x.k, .int .i64 x.n, .int .i64 x.d, .string x.t, .slice none 0 0, .int .i64 y.k, .int .i64 y.n, .int .i64 y.d, .string y.t, .slice none 0 0] 27)) w.heap.size 0 [x, y] := by
  intro i z hz
  cases i with
  | zero =>
    have e : x = z := by simpa using hz
    subst e
    exact ⟨World.cell?_alloc_at _ _ _ _ rfl, World.cell?_alloc_at _ _ _ _ rfl, World.cell?_alloc_at _ _ _ _ rfl, World.cell?_alloc_at _ _ _ _ rfl, World.cell?_alloc_at _ _ _ _ rfl⟩
  | succ i =>
    cases i with
    | zero =>
      have e : y = z := by simpa using hz
      subst e
      exact ⟨World.cell?_alloc_at _ _ _ _ rfl, World.cell?_alloc_at _ _ _ _ rfl, World.cell?_alloc_at _ _ _ _ rfl, World.cell?_alloc_at _ _ _ _ rfl, World.cell?_alloc_at _ _ _ _ rfl⟩
    | succ i => simp at hz

/-- agrees, where the reference says nothing of an argument, and Fits knows that. -/
theorem agrees_no (f : Value) (s : ByteArray) (xs : List Sc) (b c : Nat) (w : World) (hx : Lie w b 0 xs) (hne : xs ≠ []) (hl : xs.length ≤ 1000000000) (hk : ∀ x ∈ xs, x.k ≠ 5)
    (hu : xs.any (fun y => y.k == 6) = true)
    (hfit : ∀ w', Ext w w' → Calls Tryz.prog 30 #[.string s, .slice (some ⟨b, 0, none⟩) xs.length c] w' (Gives w' (.bool false))) :
    Calls Tryz.prog 5 #[f, .string s, .slice (some ⟨b, 0, none⟩) xs.length c] w (Gives w (.bool true)) :=
  agrees_unsure_arg _ _ xs ⟨6, 0, 0, ⟨#[]⟩⟩ b 0 c w hx hne hl hk hu
    fun w' hw => call_of _ _ _ _ ⟨6, 0, 0, ⟨#[]⟩⟩ w' fun w2 hw2 => callOver_no _ _ _ _ w2 fun w3 hw3 => hfit w3 ((hw.tr hw2).tr hw3)
end Go.Proofs.YtnkhpkpcjijpeaaGreatDoor
