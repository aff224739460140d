/-
  The law FnSumproduct: its row and its card.
-/
import Derived.Test.YtdakljeladhciaaGreatDoorCards
import Derived.Test.YtdakljeladhciaaGreatDoorTie
import Derived.Test.YtdakljeladhciaaGreatDoorLawFnSumproduct
import Derived.Test.YtdakljeladhciaaGreatDoorFactsFnSumproduct
import Derived.ProofKit
import Derived.OpenShut
import Derived.Lay
import Derived.LaidOnce
import Derived.SevenTiedAt
import Derived.Carry
import Derived.Test.YtdakljeladhciaaGreatDoorOp
namespace Go.Proofs.YtdakljeladhciaaGreatDoor
set_option linter.unusedSimpArgs false
set_option linter.unusedVariables false
open Go.ChangeShapes Go.WideShapes Go.ChangeAt Go.RowKit
namespace FnSumproduct

theorem laidOut : laidOutB Tryz.prog = true := by kernel_rfl

theorem own : ownKnob Tryz.prog.godebug = none := by kernel_rfl

set_option maxRecDepth 100000 in
theorem lifted (os : Os) (started : os.Started) (H : Type) (enc : TypeId × Value → H) :
    ReturnsInHanded {} Tryz.checked os 3 .any (fun w args => (Rows.fnSumproductSpec.pre enc Tryz.prog Tryz.f3 Rows.fnSumproductRow.domain false w args ∧ laidMetH Tryz.prog Rows.fnSumproductRow.laid w) ∧ sizedMet enc Tryz.prog Tryz.f3 (OpenSpec.ofChange Rows.fnSumproductSpec) false w args)
      (Rows.fnSumproductSpec.post enc Tryz.prog Tryz.f3 false true false false) := by
  refine returnsInHanded_of_change_and (C := Tryz.checked) (X := fun w _ => laidMetH Tryz.prog Rows.fnSumproductRow.laid w) (fun _ _ _ hh h => h.of_heap hh) own started (by kernel_rfl) Tryz.func3
    (ChangeSpec.witness_shaped (enc := enc) (C := Tryz.checked) (os := os) (X := fun w _ => laidMetH Tryz.prog Rows.fnSumproductRow.laid w) false (World.laidAll Tryz.prog os Rows.fnSumproductRow.laid) #[.slice none 0 0, .slice none 0 0, .int .i64 0, .int .i64 0] 8 (World.laidAll_os _ _ _)
      (World.shaped_of_ZipB (by kernel_rfl) (by kernel_rfl)) (by kernel_rfl) (by kernel_rfl) (by kernel_rfl)
      (by rw [MakeChecks.laidMetH_plain _ _ _ (by kernel_rfl)]; exact laidMet_laidAll _ (by kernel_rfl) (by kernel_rfl))) ?_
  intro W base args ds gs before hval0 hW hc _ hL _
  have hval : ∀ (j : Nat) t v, Tryz.f3.params[j]? = some t → args[j]? = some v → Value.okWide Tryz.prog W .any base t v := hval0
  have hW' := hW
  obtain ⟨p, q, hA0, hV, rfl, _, _⟩ := hW
  have hA : DataW.TrodAll enc Tryz.prog W 0 (fun _ => true) true Tryz.f3.params.toList args.toList ds p := hA0
  rw [Tryz.params3] at hA hval
  obtain ⟨v0, v1, v2, v3, d0, d1, d2, d3, p0, p1, p2, p3, rfl, rfl, rfl, t0, t1, t2, t3⟩ := trodAll_four hA
  obtain ⟨rfl, rfl⟩ := trodVars_none hV
  have k0 := t0
  have k1 := t1
  obtain ⟨xs, a, c, rfl, hx, hxc, hcm⟩ := open_items (hval 0 22 v0 rfl rfl) t0
  obtain ⟨ms, am, cm, rfl, hm, hmc, hmm⟩ := open_items (hval 1 22 v1 rfl rfl) t1
  obtain ⟨x2, rfl, rfl, rfl, y2⟩ := open_int Tryz.underlying3 (hval 2 3 v2 rfl rfl) t2
  obtain ⟨x3, rfl, rfl, rfl, y3⟩ := open_int Tryz.underlying3 (hval 3 3 v3 rfl rfl) t3
  simp only [List.append_nil] at hW'
  have hlt0 : ∀ x ∈ p0, x.block < W.heap.size := fun x hx => hW'.lt x (by simp [hx])
  have hlt1 : ∀ x ∈ p1, x.block < W.heap.size := fun x hx => hW'.lt x (by simp [hx])
  refine (FnSumproduct.law_of xs ms a am c cm x2 x3 W hx hxc hcm hm hmc hmm).mono fun e W' ⟨he, hb⟩ => ?_
  subst he
  have r0 := Below.trod laidOut (by kernel_rfl) (of_decide_eq_true (by kernel_rfl)) k0 hb hlt0
  have r1 := Below.trod laidOut (by kernel_rfl) (of_decide_eq_true (by kernel_rfl)) k1 hb hlt1
  exact ⟨_, rfl, _, _, _, [], _, [], hW', trodAll_mk1 (shut_bool Tryz.underlying4 _), trodAll_mk4 r0 r1 (shut_int Tryz.underlying3 y2) (shut_int Tryz.underlying3 y3), rfl, hb.frame _, fun h => by cases h⟩

theorem said : Rows.FnSumproductSaid :=
  OpenClaim.holds_of_wide 3 Tryz.f3 rfl rfl rfl rfl rfl rfl rfl ⟨rfl, rfl, rfl, rfl, rfl⟩ rfl rfl rfl rfl rfl (by kernel_rfl) Tryz.func3 closed
    (of_decide_eq_true (by kernel_rfl)) (by unfold Func.isWrapper; first | (rw [if_pos (by decide +kernel)]; kernel_rfl) | (rw [if_neg (by decide +kernel)]; exact ⟨rfl, rfl⟩))
    (fun os started H enc _ => lifted os started H enc)

theorem plain (f : FuncId) (fn : Func) (hf : Tryz.pinned.checked.prog.funcNamed "pub-tallysheet/laws.FnSumproduct" = some f) (hfn : Tryz.pinned.checked.prog.funcs[f]? = some fn) :
    true = Tryz.pinned.checked.prog.looks [] ∧ ∀ (j : Nat) t, fn.params[j]? = some t → Tryz.pinned.checked.prog.wantsStandIn t = false := by
  obtain rfl : f = 3 := Option.some.inj ((show Tryz.prog.funcNamed "pub-tallysheet/laws.FnSumproduct" = some 3 by kernel_rfl).symm.trans hf) |>.symm
  obtain rfl : fn = Tryz.f3 := (Option.some.inj (Tryz.func3.symm.trans hfn)).symm
  exact ⟨by kernel_rfl, fun j t ht => by
    rw [Tryz.params3] at ht
    have hm : t ∈ [22, 22, 3, 3] := by simpa using Array.mem_of_getElem? ht
    have hall : ([22, 22, 3, 3].all fun u => !Tryz.prog.wantsStandIn u) = true := by kernel_rfl
    exact (show Tryz.prog.wantsStandIn t = false by simpa using List.all_eq_true.1 hall t hm)⟩

theorem card : Rows.FnSumproductCardSaid :=
  Claim7.holds_tied_plain_at .later [] _ _ _ _ said (fun _ h => by cases h) (by kernel_rfl) (fun _ h => by cases h) fnSumproduct_row_tie rfl ⟨rfl, rfl⟩ (by kernel_rfl) rfl plain (by kernel_rfl)
end FnSumproduct
end Go.Proofs.YtdakljeladhciaaGreatDoor
