/-
  Texts of the reference: Ascii, Upper; bytes that are turned one by one.
-/
import Derived.Test.YtlbhebmjdaaglaaGreatDoorH
import Derived.Laws.IdiomStrings
import Derived.Lib.Case
namespace Go.Proofs.YtlbhebmjdaaglaaGreatDoor
set_option linter.unusedSimpArgs false
set_option linter.unusedVariables false
open Go Go.RowKit
set_option maxRecDepth 100000

/-- A byte from blank to tilde. -/
def okB (b : UInt8) : Bool := !(decide ((b.toNat : Int) < 32) || decide ((126 : Int) < (b.toNat : Int)))
def asciiT (s : ByteArray) : Bool := s.data.toList.all okB

theorem byte_at {s : ByteArray} {k : Nat} (h : k < s.size) : s.data.toList[k]? = some (s[k]'h) := by
  rw [Array.getElem?_toList]; exact Array.getElem?_eq_getElem h

theorem all_take_succ {α : Type} {xs : List α} {k : Nat} {x : α} (h : xs[k]? = some x) (p : α → Bool) : (xs.take (k + 1)).all p = ((xs.take k).all p && p x) := by
  rw [List.take_add_one, h, List.all_append]; simp

theorem add_zero (b j : Nat) : (⟨b, 0, none⟩ : Addr).add j = ⟨b, j, none⟩ := by
  unfold Addr.add; by_cases h0 : j = 0 <;> simp [h0]

/-- A block of bytes that can be written. -/
def Bys (w : World) (B : Nat) (l : List UInt8) : Prop := ∀ j x, l[j]? = some x → w.cell? ⟨B, j, none⟩ = some (.int .u8 (x.toNat : Int)) ∧ w.frozen? ⟨B, j, none⟩ = false

theorem Bys.new (w : World) (s : ByteArray) (cap : Nat) (ty : TypeId) : Bys (w.alloc (.cells (bytesRow s cap) ty ((bytesRow s cap).size, (bytesRow s cap).size + 1))) w.heap.size s.data.toList := by
  intro j x hj
  rw [Array.getElem?_toList] at hj
  have hjl : j < s.data.size := by
    apply Classical.byContradiction; intro hn
    rw [Array.getElem?_eq_none (by omega)] at hj; cases hj
  have hx : s.data[j] = x := by rw [Array.getElem?_eq_getElem hjl] at hj; exact Option.some.inj hj
  refine ⟨?_, ?_⟩
  · rw [World.cell?_alloc_mark, bytesRow_at s cap j hjl, hx]
  · rw [World.frozen?_alloc_mark]
    have : ¬ (bytesRow s cap).size ≤ j := by
      have : s.data.size ≤ (bytesRow s cap).size := by unfold bytesRow; simp
      omega
    simp [this]

theorem Bys.set {w : World} {B k : Nat} {l : List UInt8} (h : Bys w B l) (hk : k < l.length) (y : UInt8) : Bys (w.setCell ⟨B, k, none⟩ (.int .u8 (y.toNat : Int))) B (l.set k y) := by
  intro j x hj
  by_cases e : k = j
  · subst e
    rw [List.getElem?_set_self hk] at hj
    have hy : y = x := Option.some.inj hj
    subst hy
    have := h k _ (List.getElem?_eq_getElem hk)
    exact ⟨World.cell?_setCell_same _ _ _ this.1, by rw [World.frozen?_setCell]; exact this.2⟩
  · rw [List.getElem?_set_ne e] at hj
    have := h j x hj
    exact ⟨by rw [World.cell?_setCell_other _ _ _ _ (fun h => e (congrArg Addr.off h))]; exact this.1, by rw [World.frozen?_setCell]; exact this.2⟩

theorem Bys.ext {w w' : World} {B : Nat} {l : List UInt8} (h : Bys w B l) (hb : Ext w w') : Bys w' B l := by
  intro j x hj
  have := h j x hj
  exact ⟨hb.get this.1, by rw [hb.frozen (p := ⟨B, j, none⟩) (lt_of_cell this.1)]; exact this.2⟩

/-- The bytes up to a place turned. -/
def mid (f : UInt8 → UInt8) (l : List UInt8) (k : Nat) : List UInt8 := (l.take k).map f ++ l.drop k

theorem mid_zero (f : UInt8 → UInt8) (l : List UInt8) : mid f l 0 = l := by simp [mid]
theorem mid_len (f : UInt8 → UInt8) (l : List UInt8) (k : Nat) : (mid f l k).length = l.length := by simp [mid]; omega
theorem mid_all (f : UInt8 → UInt8) (l : List UInt8) (k : Nat) (h : l.length ≤ k) : mid f l k = l.map f := by
  unfold mid; rw [List.take_of_length_le h, List.drop_eq_nil_of_le h]; simp
theorem mid_at {f : UInt8 → UInt8} {l : List UInt8} {k : Nat} {x : UInt8} (h : l[k]? = some x) : (mid f l k)[k]? = some x := by
  have hk : k < l.length := (List.getElem?_eq_some_iff.1 h).1
  unfold mid
  rw [List.getElem?_append_right (by simp; omega)]
  simp [Nat.min_eq_left (Nat.le_of_lt hk), h]
theorem mid_succ {f : UInt8 → UInt8} {l : List UInt8} {k : Nat} {x : UInt8} (h : l[k]? = some x) : mid f l (k + 1) = (mid f l k).set k (f x) := by
  have hk : k < l.length := (List.getElem?_eq_some_iff.1 h).1
  have hx : l[k] = x := (List.getElem?_eq_some_iff.1 h).2
  unfold mid
  rw [List.set_append_right _ _ (by simp; omega)]
  have : k - ((l.take k).map f).length = 0 := by simp; omega
  rw [this, List.drop_eq_getElem_cons hk, hx, List.set_cons_zero, List.take_add_one, h]
  simp

theorem upB_int (b : UInt8) : ((Lib.upperB b).toNat : Int) = if (97 : Int) ≤ b.toNat ∧ (b.toNat : Int) ≤ 122 then (b.toNat : Int) - 32 else b.toNat := by
  have h := Lib.isLowerB_int b
  unfold Lib.upperB
  by_cases h1 : (97 : Int) ≤ b.toNat ∧ (b.toNat : Int) ≤ 122
  · rw [h, if_pos (by simp [h1]), if_pos h1]
    have : (32 : UInt8) ≤ b := by rw [UInt8.le_iff_toNat_le]; simp; omega
    rw [UInt8.toNat_sub_of_le _ _ this]; simp; omega
  · rw [h, if_neg (by simpa using h1), if_neg h1]
end Go.Proofs.YtlbhebmjdaaglaaGreatDoor
