/-
  The law FnErrors: its row and its card.
-/
import Derived.Test.YtlbhebmjdaaglaaGreatDoorCards
import Derived.Test.YtlbhebmjdaaglaaGreatDoorTie
import Derived.Test.YtlbhebmjdaaglaaGreatDoorLawFnErrors
import Derived.Test.YtlbhebmjdaaglaaGreatDoorFactsFnErrors
import Derived.Test.YtlbhebmjdaaglaaGreatDoorEr4
import Derived.ProofKit
import Derived.OpenShut
import Derived.Lay
import Derived.LaidOnce
import Derived.SevenTiedAt
import Derived.Stop.LaidErr
namespace Go.Proofs.YtlbhebmjdaaglaaGreatDoor
set_option linter.unusedSimpArgs false
set_option linter.unusedVariables false
open Go.ChangeShapes Go.WideShapes Go.ChangeAt Go.RowKit
namespace FnErrors

theorem law (x0 : Int) (x1 : Int) (x2 : ByteArray) (w : World) (h0 : (0 ≤ x0 ∧ x0 ≤ 255)) (h1 : (-9223372036854775808 ≤ x1 ∧ x1 ≤ 9223372036854775807)) (h2 : x2.size ≤ maxLen) (hv : SynAt w) (ht : TabsAt w) :
    Calls Tryz.prog 3 #[.int .u8 x0, .int .i64 x1, .string x2] w fun e w' => e = .returned (.bool true) ∧ Below w.heap.size w w' :=
  law_of x0 x1 x2 w h0 h1 h2 hv ht

theorem star : "*" ++ "errors.errorString" = "*errors.errorString" := by decide

theorem rowSyn (u : TypeId) (h : Tryz.prog.typeName? 3 u = some "*errors.errorString") : u = 149 :=
  typeName_ptr_named (nm := "errors.errorString") (by rw [star]; kernel_rfl) (by kernel_rfl) (by decide) u (by rw [star]; exact h)

theorem synAt_of {W : World} (h : laidMet Tryz.prog Rows.fnErrorsRow.laid W) : SynAt W := by
  have hg : Tryz.prog.globalNamed "strconv.ErrSyntax" = some 8 := by kernel_rfl
  obtain ⟨a, s, hv, hc, ht, _⟩ := laid_sentinel (g := 8) h.tail.tail.tail.tail.tail.tail.tail.tail.tail.tail.tail hg (by kernel_rfl) Tryz.underlying90 rowSyn Tryz.underlying149 Tryz.underlying151 rfl rfl Tryz.underlying9 (by kernel_rfl) (by kernel_rfl)
  refine ⟨a, s, by rw [World.var?_cell hg hv 0]; rfl, hc, ?_⟩
  have e : s.size = s.data.toList.length := by rw [Array.length_toList]; rfl
  rw [e, ht]
  decide

theorem tabs_of {W : World} (h : laidMet Tryz.prog Rows.fnErrorsRow.laid W) : TabsAt W := by
  have h8 := h.tail.tail.tail.tail.tail.tail.tail.tail
  have h17 := h8.tail.tail.tail.tail.tail.tail.tail.tail.tail
  have g8 : Tryz.prog.globalNamed "internal/strconv.uint64pow10" = some 13 := by kernel_rfl
  have g17 : Tryz.prog.globalNamed "internal/strconv.pow10Tab" = some 17 := by kernel_rfl
  have hp : PowAt W := pow_of (by
    have e := u64s_of_laid (l := powRow) h8 g8 (by kernel_rfl) Tryz.underlying215 Tryz.underlying158 (by kernel_rfl)
    exact e)
  obtain ⟨T, hT⟩ := tab_of (pairs_of_laid (l := Go.Pinned.pow10Rows.map fun x => .agg [.lit (.int .u64 x.1), .lit (.int .u64 x.2)]) h17 g17 (by kernel_rfl) Tryz.underlying235 Tryz.underlying234 Tryz.underlying158 rfl rfl rfl rfl (by kernel_rfl) (by kernel_rfl))
  exact ⟨⟨T, hT⟩, hp, lt_of_cell (hT.hi 0 (by decide))⟩

theorem own : ownKnob Tryz.prog.godebug = none := by kernel_rfl

set_option maxRecDepth 100000 in
theorem lifted (os : Os) (started : os.Started) (H : Type) (enc : TypeId × Value → H) :
    ReturnsInHanded {} Tryz.checked os 3 .any (fun w args => (Rows.fnErrorsSpec.pre enc Tryz.prog Tryz.f3 Rows.fnErrorsRow.domain false w args ∧ laidMetH Tryz.prog Rows.fnErrorsRow.laid w) ∧ sizedMet enc Tryz.prog Tryz.f3 (OpenSpec.ofChange Rows.fnErrorsSpec) false w args)
      (Rows.fnErrorsSpec.post enc Tryz.prog Tryz.f3 false true false false) := by
  refine returnsInHanded_of_change_and (C := Tryz.checked) (X := fun w _ => laidMetH Tryz.prog Rows.fnErrorsRow.laid w) (fun _ _ _ hh h => h.of_heap hh) own started (by kernel_rfl) Tryz.func3
    (ChangeSpec.witness_shaped (enc := enc) (C := Tryz.checked) (os := os) (X := fun w _ => laidMetH Tryz.prog Rows.fnErrorsRow.laid w) false (World.laidAll Tryz.prog os Rows.fnErrorsRow.laid) #[.int .u8 0, .int .i64 0, .string ⟨#[]⟩] 8 (World.laidAll_os _ _ _)
      (World.shaped_of_ZipB (by kernel_rfl) (by kernel_rfl)) (by kernel_rfl) (by kernel_rfl) (by kernel_rfl)
      (by rw [MakeChecks.laidMetH_plain _ _ _ (by kernel_rfl)]; exact laidMet_laidAll _ (by kernel_rfl) (by kernel_rfl))) ?_
  intro W base args ds gs before hval0 hW hc _ hL _
  have hval : ∀ (j : Nat) t v, Tryz.f3.params[j]? = some t → args[j]? = some v → Value.okWide Tryz.prog W .any base t v := hval0
  have hW' := hW
  obtain ⟨p, q, hA0, hV, rfl, _, _⟩ := hW
  have hA : DataW.TrodAll enc Tryz.prog W 0 (fun _ => true) true Tryz.f3.params.toList args.toList ds p := hA0
  rw [Tryz.params3] at hA hval
  obtain ⟨v0, v1, v2, d0, d1, d2, p0, p1, p2, rfl, rfl, rfl, t0, t1, t2⟩ := trodAll_three hA
  obtain ⟨rfl, rfl⟩ := trodVars_none hV
  obtain ⟨x0, rfl, rfl, rfl, y0⟩ := open_int Tryz.underlying5 (hval 0 5 v0 rfl rfl) t0
  obtain ⟨x1, rfl, rfl, rfl, y1⟩ := open_int Tryz.underlying3 (hval 1 3 v1 rfl rfl) t1
  obtain ⟨x2, rfl, rfl, rfl, h2⟩ := Go.ChangeMaps.open_string Tryz.underlying9 (hval 2 9 v2 rfl rfl) t2
  simp only [List.append_nil] at hW'
  have h0 : (0 ≤ x0 ∧ x0 ≤ 255) := by simpa [Lit.wf, IntKind.min, IntKind.max, IntKind.signed, IntKind.bits] using y0
  have h1 : (-9223372036854775808 ≤ x1 ∧ x1 ≤ 9223372036854775807) := by simpa [Lit.wf, IntKind.min, IntKind.max, IntKind.signed, IntKind.bits] using y1
  rw [MakeChecks.laidMetH_plain _ _ _ (by kernel_rfl)] at hL
  refine (law x0 x1 x2 W h0 h1 h2 (synAt_of hL) (tabs_of hL)).mono fun e W' ⟨he, hb⟩ => ?_
  subst he
  exact ⟨_, rfl, _, _, _, [], [], [], hW', trodAll_mk1 (shut_bool Tryz.underlying4 _), trodAll_mk3 (shut_int Tryz.underlying5 y0) (shut_int Tryz.underlying3 y1) (Go.ChangeMaps.shut_string Tryz.underlying9 h2), rfl, hb.frame _, fun h => by cases h⟩

theorem said : Rows.FnErrorsSaid :=
  OpenClaim.holds_of_wide 3 Tryz.f3 rfl rfl rfl rfl rfl rfl rfl ⟨rfl, rfl, rfl, rfl, rfl⟩ rfl rfl rfl rfl rfl (by kernel_rfl) Tryz.func3 closed
    (of_decide_eq_true (by kernel_rfl)) (by unfold Func.isWrapper; first | (rw [if_pos (by decide +kernel)]; kernel_rfl) | (rw [if_neg (by decide +kernel)]; exact ⟨rfl, rfl⟩))
    (fun os started H enc _ => lifted os started H enc)

theorem plain (f : FuncId) (fn : Func) (hf : Tryz.pinned.checked.prog.funcNamed "pub-tallysheet/laws.FnErrors" = some f) (hfn : Tryz.pinned.checked.prog.funcs[f]? = some fn) :
    true = Tryz.pinned.checked.prog.looks [] ∧ ∀ (j : Nat) t, fn.params[j]? = some t → Tryz.pinned.checked.prog.wantsStandIn t = false := by
  obtain rfl : f = 3 := Option.some.inj ((show Tryz.prog.funcNamed "pub-tallysheet/laws.FnErrors" = some 3 by kernel_rfl).symm.trans hf) |>.symm
  obtain rfl : fn = Tryz.f3 := (Option.some.inj (Tryz.func3.symm.trans hfn)).symm
  exact ⟨by kernel_rfl, fun j t ht => by
    rw [Tryz.params3] at ht
    have hm : t ∈ [5, 3, 9] := by simpa using Array.mem_of_getElem? ht
    have hall : ([5, 3, 9].all fun u => !Tryz.prog.wantsStandIn u) = true := by kernel_rfl
    exact (show Tryz.prog.wantsStandIn t = false by simpa using List.all_eq_true.1 hall t hm)⟩

theorem card : Rows.FnErrorsCardSaid :=
  Claim7.holds_tied_plain_at .later [] _ _ _ _ said (fun _ h => by cases h) (by kernel_rfl) (fun _ h => by cases h) fnErrors_row_tie rfl ⟨rfl, rfl⟩ (by kernel_rfl) rfl plain (by kernel_rfl)
end FnErrors
end Go.Proofs.YtlbhebmjdaaglaaGreatDoor
