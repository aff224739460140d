/-
  A word's ToNumber: an error of some text; that of other values: a number.
-/
import Derived.Test.YtlbhebmjdaaglaaGreatDoorQu
import Derived.Test.YtlbhebmjdaaglaaGreatDoorTx
namespace Go.Proofs.YtlbhebmjdaaglaaGreatDoor
set_option linter.unusedSimpArgs false
set_option linter.unusedVariables false
open Go Go.RowKit
set_option maxRecDepth 100000

/-- The variable strconv.ErrSyntax: an error with a text. -/
def SynAt (w : World) : Prop := ∃ (a : Addr) (t : ByteArray), w.cell? ⟨8, 0, none⟩ = some (.iface 149 (.pointer (some a))) ∧ w.cell? a = some (.string t) ∧ t.size ≤ 1000

theorem SynAt.ext {w w' : World} (h : SynAt w) (hb : Ext w w') : SynAt w' := by
  obtain ⟨a, t, h1, h2, h3⟩ := h
  exact ⟨a, t, hb.get h1, hb.get h2, h3⟩

set_option maxHeartbeats 400000 in
theorem errText_any (a : Addr) (t : ByteArray) (w : World) (h : w.cell? a = some (.string t)) : Calls Tryz.prog 214 #[.pointer (some a)] w (Gives w (.string t)) := by
  obtain ⟨b, o, k⟩ := a
  have h0 : w.cell? (⟨b, o, k⟩ : Addr) = some (.string t) := h
  go_enter Tryz.func214, Tryz.ntmps214
  go_wp2
  exact bodyPost_ret (v := .string t) (by simp [results, Tryz.results214, go_sem, *]) rfl ⟨rfl, (by repeat (first | with_reducible exact Below.refl _ _ | with_reducible assumption | ((with_reducible refine Below.setCell ?_ ?_ _); rotate_left; (simp; try omega)) | (with_reducible refine Ext.tr ?_ (by with_reducible assumption)) | (with_reducible refine Ext.al ?_ _) | (with_reducible refine below_drewN ?_ _) | (with_reducible refine Below.drew ?_)))⟩

set_option maxHeartbeats 400000 in
theorem numError_word (fn s : ByteArray) (N : Nat) (a : Addr) (t : ByteArray) (w : World) (hf : fn.size ≤ 100) (hs : s.size ≤ 1000000000) (h2 : 2 ≤ s.size) (hl : LetT s) (ht : t.size ≤ 1000)
    (hN : w.heap[N]? = some (.cells #[.string fn, .string s, .iface 149 (.pointer (some a))] 156 (0, 0))) (ha : w.cell? a = some (.string t)) :
    Calls Tryz.prog 202 #[.pointer (some ⟨N, 0, none⟩)] w fun e w' => ∃ q, e = .returned (.string q) ∧ Ext w w' := by
  have hq : (strOfNums (quoted s)).size = s.size + 2 := by rw [strOfNums_size, quoted_len]
  have c0 : w.cell? ⟨N, 0, none⟩ = some (.string fn) := by simp [World.cell?, hN]
  have c1 : w.cell? ⟨N, 0 + 1, none⟩ = some (.string s) := by simp [World.cell?, hN]
  have c2 : w.cell? ⟨N, 0 + 2, none⟩ = some (.iface 149 (.pointer (some a))) := by simp [World.cell?, hN]
  refine (Tryz.NumError_Error N 0 fn s (strOfNums (quoted s)) t 149 (.pointer (some a)) 214 (.pointer (some a)) w c0 c1 c2
    (by rw [hq]; omega)
    (fun W h => quote_letters s W hs h2 hl)
    (fun W => rfl)
    (fun args W => Tryz.call214 args W)
    (fun W h => errText_any _ _ W (by rw [h.cell (block_lt_of_cell ha)]; exact ha))).mono fun e w' ⟨h1, h2⟩ => ⟨_, h1, h2⟩

set_option maxHeartbeats 800000 in
/-- What ParseFloat says of a word: an error that tells its text. -/
theorem parse_word (s : ByteArray) (w : World) (hs : s.size ≤ 1000000000) (hw : wordT s = true) (hv : SynAt w) :
    Calls Tryz.prog 73 #[.string s, .int .i64 64] w fun e w' => ∃ (a : Addr) (t : ByteArray) (N : Nat), e = .returned (.tuple #[.float .f64 0, .iface 132 (.pointer (some ⟨N, 0, none⟩))]) ∧
      w'.heap[N]? = some (.cells #[.string ⟨#[80, 97, 114, 115, 101, 70, 108, 111, 97, 116]⟩, .string s, .iface 149 (.pointer (some a))] 156 (0, 0)) ∧ w'.cell? a = some (.string t) ∧ t.size ≤ 1000 ∧ Ext w w' := by
  obtain ⟨a, t, v1, v2, v3⟩ := hv
  have HI := Lib.hid (fun w' => inner_word s w' hs hw)
  have HE := Lib.hid (fun (w' : World) (hv : w'.cell? ⟨8, 0, none⟩ = some (.iface 149 (.pointer (some a)))) => Tryz.strconv_toError_syntax ⟨#[80, 97, 114, 115, 101, 70, 108, 111, 97, 116]⟩ s 0 64 _ w' (by omega) hv (Or.inr ⟨_, _, rfl⟩))
  have V1 := Lib.hid v1; have V2 := Lib.hid v2
  clear hw v1 v2
  go_enter Tryz.func73, Tryz.ntmps73
  (go_wp2_with fail; refine (HI.out _).mono ?_; rintro e w1 ⟨rfl, hb1⟩; obtain ⟨hc1, hf1, hz1⟩ := ext_facts hb1; (try simp at hz1); clear hc1 hf1)
  go_wp2_with fail
  refine (HE.out w1 (hb1.get V1.out)).mono ?_
  rintro e w2 ⟨N, rfl, hN, hblk, hb2⟩
  have hb3 := hb1.tr hb2
  have hc := Lib.hid (hb3.get V2.out)
  have hB := Lib.hid hblk
  clear hblk
  go_wp2
  refine bodyPost_ret (v := .tuple #[.float .f64 0, .iface 132 (.pointer (some ⟨N, 0, none⟩))]) (by simp [results, Tryz.results73, go_sem, *]) rfl ⟨a, t, N, rfl, hB.out, hc.out, v3, hb3⟩

set_option maxHeartbeats 800000 in
theorem toNumber_word (s : ByteArray) (w : World) (hs : s.size ≤ 1000000000) (hw : wordT s = true) (hv : SynAt w) :
    Calls Tryz.prog 61 #[.agg (fstrC s)] w fun e w' => ∃ q, e = .returned (ferr valueT q) ∧ Ext w w' := by
  have HP := Lib.hid (fun w' h => parse_word s w' hs hw h)
  have hl := letT_word hw
  have h2 := (word_first hw)
  have HV := Lib.hid hv
  obtain ⟨_, _, hsz⟩ := h2
  have HL := Lib.hid hl
  clear hl hw hv
  go_enter Tryz.func61, Tryz.ntmps61
  go_wp2_with fail
  refine (HP.out _ (HV.out.ext (by repeat (first | with_reducible exact Below.refl _ _ | with_reducible assumption | ((with_reducible refine Below.setCell ?_ ?_ _); rotate_left; (simp; try omega)) | (with_reducible refine Ext.tr ?_ (by with_reducible assumption)) | (with_reducible refine Ext.al ?_ _) | (with_reducible refine below_drewN ?_ _) | (with_reducible refine Below.drew ?_))))).mono ?_
  rintro e w1 ⟨a, t, N, rfl, hN, hc, ht, hb1⟩
  have HN := Lib.hid (fun w' h1 h2 => numError_word ⟨#[80, 97, 114, 115, 101, 70, 108, 111, 97, 116]⟩ s N a t w' (by decide) hs hsz HL.out ht h1 h2)
  have HB := Lib.hid hN
  have HC := Lib.hid hc
  clear hN hc
  (obtain ⟨hc1, hf1, hz1⟩ := ext_facts hb1; (try simp at hz1); (have hq1_0 : w.heap.size < w1.heap.size := by omega); (have hl1_0 : w.heap.size ≤ w1.heap.size := by omega); (have hr1_0 := fun o => hc1 (w.heap.size) o (by first | omega | (simp; done) | (simp; omega))); (have hs1_0 := fun o => hf1 (w.heap.size) o (by first | omega | (simp; done) | (simp; omega))); (try simp (disch := first | omega | (simp; omega)) only [World.cell?_alloc_past, World.cell?_drew] at hr1_0); (try simp (disch := first | omega | (simp; omega)) only [World.frozen?_alloc_past, World.frozen?_drew] at hs1_0); (have hq1_1 : w.heap.size + 1 < w1.heap.size := by omega); (have hl1_1 : w.heap.size + 1 ≤ w1.heap.size := by omega); (have hr1_1 := fun o => hc1 (w.heap.size + 1) o (by first | omega | (simp; done) | (simp; omega))); (have hs1_1 := fun o => hf1 (w.heap.size + 1) o (by first | omega | (simp; done) | (simp; omega))); (try simp (disch := first | omega | (simp; omega)) only [World.cell?_alloc_past, World.cell?_drew] at hr1_1); (try simp (disch := first | omega | (simp; omega)) only [World.frozen?_alloc_past, World.frozen?_drew] at hs1_1); clear hc1 hf1)
  go_wp2_with fail
  have hm : (method (Tryz.prog.types.size + 100) 132 (.pointer (some ⟨N, 0, none⟩)) "Error").run Tryz.prog w1 = .ok (202, .pointer (some ⟨N, 0, none⟩)) w1 := rfl
  erw [hm]
  clear hm
  go_wp2_with fail
  refine (HN.out w1 HB.out HC.out).mono ?_
  rintro e w2 ⟨q, rfl, hb2⟩
  clear HN HB HC
  (obtain ⟨hc2, hf2, hz2⟩ := ext_facts hb2; (try simp at hz2); (have hq2_0 : w.heap.size < w2.heap.size := by omega); (have hl2_0 : w.heap.size ≤ w2.heap.size := by omega); (have hr2_0 := fun o => hc2 (w.heap.size) o (by first | omega | (simp; done) | (simp; omega))); (have hs2_0 := fun o => hf2 (w.heap.size) o (by first | omega | (simp; done) | (simp; omega))); (try simp (disch := first | omega | (simp; omega)) only [World.cell?_alloc_past, World.cell?_drew] at hr2_0); (try simp (disch := first | omega | (simp; omega)) only [World.frozen?_alloc_past, World.frozen?_drew] at hs2_0); (have hq2_1 : w.heap.size + 1 < w2.heap.size := by omega); (have hl2_1 : w.heap.size + 1 ≤ w2.heap.size := by omega); (have hr2_1 := fun o => hc2 (w.heap.size + 1) o (by first | omega | (simp; done) | (simp; omega))); (have hs2_1 := fun o => hf2 (w.heap.size + 1) o (by first | omega | (simp; done) | (simp; omega))); (try simp (disch := first | omega | (simp; omega)) only [World.cell?_alloc_past, World.cell?_drew] at hr2_1); (try simp (disch := first | omega | (simp; omega)) only [World.frozen?_alloc_past, World.frozen?_drew] at hs2_1); clear hc2 hf2)
  (go_wp2_with fail; refine (newError_any valueT q _).mono ?_; rintro e w3 ⟨rfl, hb3⟩; obtain ⟨hc3, hf3, hz3⟩ := ext_facts hb3; (try simp at hz3); (have hq3_0 : w.heap.size < w3.heap.size := by omega); (have hl3_0 : w.heap.size ≤ w3.heap.size := by omega); (have hr3_0 := fun o => hc3 (w.heap.size) o (by first | omega | (simp; done) | (simp; omega))); (have hs3_0 := fun o => hf3 (w.heap.size) o (by first | omega | (simp; done) | (simp; omega))); (try simp (disch := first | omega | (simp; omega)) only [World.cell?_alloc_past, World.cell?_drew] at hr3_0); (try simp (disch := first | omega | (simp; omega)) only [World.frozen?_alloc_past, World.frozen?_drew] at hs3_0); (have hq3_1 : w.heap.size + 1 < w3.heap.size := by omega); (have hl3_1 : w.heap.size + 1 ≤ w3.heap.size := by omega); (have hr3_1 := fun o => hc3 (w.heap.size + 1) o (by first | omega | (simp; done) | (simp; omega))); (have hs3_1 := fun o => hf3 (w.heap.size + 1) o (by first | omega | (simp; done) | (simp; omega))); (try simp (disch := first | omega | (simp; omega)) only [World.cell?_alloc_past, World.cell?_drew] at hr3_1); (try simp (disch := first | omega | (simp; omega)) only [World.frozen?_alloc_past, World.frozen?_drew] at hs3_1); clear hc3 hf3)
  go_wp2
  exact bodyPost_ret (v := ferr valueT q) (by simp [results, Tryz.results61, go_sem, *]) rfl ⟨q, rfl, (by repeat (first | with_reducible exact Below.refl _ _ | with_reducible assumption | ((with_reducible refine Below.setCell ?_ ?_ _); rotate_left; (simp; try omega)) | (with_reducible refine Ext.tr ?_ (by with_reducible assumption)) | (with_reducible refine Ext.al ?_ _) | (with_reducible refine below_drewN ?_ _) | (with_reducible refine Below.drew ?_)))⟩

/-- The cells of a formulaArg of a kind that is neither a text nor a number nor a matrix. -/
def OtherC (v : Array Value) : Prop := ∃ (x : Nat) (s m : ByteArray) (b : Bool) (k : Int), v = #[.string ⟨#[]⟩, .float .f64 x, .string s, .slice none 0 0, .slice none 0 0, .bool b, .string m, .int .u8 k, .pointer none, .pointer none] ∧ (k = 5 ∨ k = 6)

theorem tame0 : Tame 0 := by have := tame_f16 (Z := 0) (by decide) (by decide); rwa [f16_zero] at this

set_option maxHeartbeats 800000 in
theorem toNumber_other (v : Array Value) (w : World) (h : OtherC v) : Calls Tryz.prog 61 #[.agg v] w (Gives w (fnum 0)) := by
  obtain ⟨x, s, m, b, k, rfl, hk⟩ := h
  have ht := fun w' => newNumber_ok 0 w' tame0
  have HT := Lib.hid ht; clear ht
  rcases hk with rfl | rfl
  all_goals
    go_enter Tryz.func61, Tryz.ntmps61
    (go_wp2_with fail; refine (HT.out _).mono ?_; rintro e w1 ⟨rfl, hb1⟩; obtain ⟨hc1, hf1, hz1⟩ := ext_facts hb1; (try simp at hz1); (have hq1_0 : w.heap.size < w1.heap.size := by omega); (have hl1_0 : w.heap.size ≤ w1.heap.size := by omega); (have hr1_0 := fun o => hc1 (w.heap.size) o (by first | omega | (simp; done) | (simp; omega))); (have hs1_0 := fun o => hf1 (w.heap.size) o (by first | omega | (simp; done) | (simp; omega))); (try simp (disch := first | omega | (simp; omega)) only [World.cell?_alloc_past, World.cell?_drew] at hr1_0); (try simp (disch := first | omega | (simp; omega)) only [World.frozen?_alloc_past, World.frozen?_drew] at hs1_0); (have hq1_1 : w.heap.size + 1 < w1.heap.size := by omega); (have hl1_1 : w.heap.size + 1 ≤ w1.heap.size := by omega); (have hr1_1 := fun o => hc1 (w.heap.size + 1) o (by first | omega | (simp; done) | (simp; omega))); (have hs1_1 := fun o => hf1 (w.heap.size + 1) o (by first | omega | (simp; done) | (simp; omega))); (try simp (disch := first | omega | (simp; omega)) only [World.cell?_alloc_past, World.cell?_drew] at hr1_1); (try simp (disch := first | omega | (simp; omega)) only [World.frozen?_alloc_past, World.frozen?_drew] at hs1_1); clear hc1 hf1)
    go_wp2
    exact bodyPost_ret (v := fnum 0) (by simp [results, Tryz.results61, go_sem, *]) rfl ⟨rfl, (by repeat (first | with_reducible exact Below.refl _ _ | with_reducible assumption | ((with_reducible refine Below.setCell ?_ ?_ _); rotate_left; (simp; try omega)) | (with_reducible refine Ext.tr ?_ (by with_reducible assumption)) | (with_reducible refine Ext.al ?_ _) | (with_reducible refine below_drewN ?_ _) | (with_reducible refine Below.drew ?_)))⟩
end Go.Proofs.YtlbhebmjdaaglaaGreatDoor
