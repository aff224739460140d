/-
  The law FnErrors: the closed facts of its row, each for itself.
-/
import Derived.Test.YtlbhebmjdaaglaaGreatDoorCards
import Derived.Test.YtlbhebmjdaaglaaGreatDoorTie
import Derived.ProofKit
import Derived.OpenShut
import Derived.SevenTiedAt
namespace Go.Proofs.YtlbhebmjdaaglaaGreatDoor
set_option linter.unusedSimpArgs false
set_option linter.unusedVariables false
open Go.ChangeShapes Go.WideShapes Go.ChangeAt Go.RowKit
namespace FnErrors

theorem and2 {a b : Bool} (h : a = true) (h' : b = true) : (a && b) = true := by subst h h'; rfl

theorem joined_of (P : Program) (f : FuncId) (fn : Func) (s : ChangeSpec) (c : OpenClaim) (h0 : (c.wf (OpenSpec.ofChange s)) = true) (h1 : (laidOutB P) = true) (h2 : (mapsRowed P) = true) (h3 : (fn.params.all (P.readableRec ·)) = true) (h4 : (namedTie P c.named s.vars) = true) (h5 : ((c.stops == [])) = true) (h6 : ((P.stops == [])) = true) (h7 : ((c.knobs == [])) = true) (h8 : ((P.stopKnobs == [])) = true) (h9 : ((c.inPlace == P.inPlace f)) = true) (h10 : ((c.unfollowed == P.unfollowed f)) = true) (h11 : ((c.recurses == P.recurses f)) = true) (h12 : ((c.named == P.varsNamed f)) = true) (h13 : ((c.maps == (fn.params.toList ++ s.plain.varTypes P).any (P.mapsRec ·))) = true) (h14 : ((c.ifaces == (fn.params.toList ++ s.plain.varTypes P).any (P.ifacesRec ·))) = true) (h15 : ((c.mapsOut == P.mapsAmong fn.resultTypes.toList)) = true) (h16 : ((c.loops == (fn.params.toList ++ s.plain.varTypes P).any (P.loopsFrom ·))) = true) (h17 : ((c.wideKeys == (fn.params.toList ++ s.plain.varTypes P ++ fn.resultTypes.toList).any (P.wideKeysFrom ·))) = true) (h18 : (s.vars.all (P.varReadable ·)) = true) (h19 : (fn.resultTypes.all (fun t => P.readableRec t && decide (t < P.types.size))) = true) (h20 : ((c.ifacesOut == fn.resultTypes.toList.any (P.ifacesRec ·))) = true) (h21 : ((c.loopsOut == fn.resultTypes.toList.any (P.loopsFrom ·))) = true) (h22 : ((c.plainKeys == P.plainKeys)) = true) (h23 : (c.shortTexts.isNone) = true) (h24 : (P.stopsHeard) = true) (h25 : (P.mayEnter) = true) (h26 : ((c.lifted == P.liftsFinal)) = true) (h27 : ((P.make == some c.make)) = true) (h28 : ((c.kinds == (if c.domain.isEmpty then [] else fn.params.toList.map fun t => match P.underlying t with | some (.int k) => some k | _ => none))) = true) (h29 : ((c.pinned == c.pinnedBy)) = true) (h30 : ((c.veiled == (fn.params.toList ++ s.plain.varTypes P ++ fn.resultTypes.toList).any (P.veiledRec ·))) = true) (h31 : (c.veiledFits P fn.params.toList (fn.params.toList ++ s.plain.varTypes P ++ fn.resultTypes.toList)) = true) : joinedFacts P f fn s c = true :=
  (and2 (and2 (and2 (and2 (and2 (and2 (and2 (and2 (and2 (and2 (and2 (and2 (and2 (and2 (and2 (and2 (and2 (and2 (and2 (and2 (and2 (and2 (and2 (and2 (and2 (and2 (and2 (and2 (and2 (and2 (and2 h0 h1) h2) h3) h4) h5) h6) h7) h8) h9) h10) h11) h12) h13) h14) h15) h16) h17) h18) h19) h20) h21) h22) h23) h24) h25) h26) h27) h28) h29) h30) h31)

theorem k0 : (Rows.fnErrorsRow.wf (OpenSpec.ofChange Rows.fnErrorsSpec)) = true := by kernel_rfl
theorem k1 : (laidOutB (Tryz.pinned.checked.prog)) = true := by kernel_rfl
theorem k2 : (mapsRowed (Tryz.pinned.checked.prog)) = true := by kernel_rfl
theorem k3 : (Tryz.f3.params.all ((Tryz.pinned.checked.prog).readableRec ·)) = true := by kernel_rfl
theorem k4 : (namedTie (Tryz.pinned.checked.prog) Rows.fnErrorsRow.named Rows.fnErrorsSpec.vars) = true := by kernel_rfl
theorem k5 : ((Rows.fnErrorsRow.stops == [])) = true := by kernel_rfl
theorem k6 : (((Tryz.pinned.checked.prog).stops == [])) = true := by kernel_rfl
theorem k7 : ((Rows.fnErrorsRow.knobs == [])) = true := by kernel_rfl
theorem k8 : (((Tryz.pinned.checked.prog).stopKnobs == [])) = true := by kernel_rfl
theorem k9 : ((Rows.fnErrorsRow.inPlace == (Tryz.pinned.checked.prog).inPlace 3)) = true := by kernel_rfl
theorem k10 : ((Rows.fnErrorsRow.unfollowed == (Tryz.pinned.checked.prog).unfollowed 3)) = true := by kernel_rfl
theorem k11 : ((Rows.fnErrorsRow.recurses == (Tryz.pinned.checked.prog).recurses 3)) = true := by kernel_rfl
theorem k12 : ((Rows.fnErrorsRow.named == (Tryz.pinned.checked.prog).varsNamed 3)) = true := by kernel_rfl
theorem k13 : ((Rows.fnErrorsRow.maps == (Tryz.f3.params.toList ++ Rows.fnErrorsSpec.plain.varTypes (Tryz.pinned.checked.prog)).any ((Tryz.pinned.checked.prog).mapsRec ·))) = true := by kernel_rfl
theorem k14 : ((Rows.fnErrorsRow.ifaces == (Tryz.f3.params.toList ++ Rows.fnErrorsSpec.plain.varTypes (Tryz.pinned.checked.prog)).any ((Tryz.pinned.checked.prog).ifacesRec ·))) = true := by kernel_rfl
theorem k15 : ((Rows.fnErrorsRow.mapsOut == (Tryz.pinned.checked.prog).mapsAmong Tryz.f3.resultTypes.toList)) = true := by kernel_rfl
theorem k16 : ((Rows.fnErrorsRow.loops == (Tryz.f3.params.toList ++ Rows.fnErrorsSpec.plain.varTypes (Tryz.pinned.checked.prog)).any ((Tryz.pinned.checked.prog).loopsFrom ·))) = true := by kernel_rfl
theorem k17 : ((Rows.fnErrorsRow.wideKeys == (Tryz.f3.params.toList ++ Rows.fnErrorsSpec.plain.varTypes (Tryz.pinned.checked.prog) ++ Tryz.f3.resultTypes.toList).any ((Tryz.pinned.checked.prog).wideKeysFrom ·))) = true := by kernel_rfl
theorem k18 : (Rows.fnErrorsSpec.vars.all ((Tryz.pinned.checked.prog).varReadable ·)) = true := by kernel_rfl
theorem k19 : (Tryz.f3.resultTypes.all (fun t => (Tryz.pinned.checked.prog).readableRec t && decide (t < (Tryz.pinned.checked.prog).types.size))) = true := by kernel_rfl
theorem k20 : ((Rows.fnErrorsRow.ifacesOut == Tryz.f3.resultTypes.toList.any ((Tryz.pinned.checked.prog).ifacesRec ·))) = true := by kernel_rfl
theorem k21 : ((Rows.fnErrorsRow.loopsOut == Tryz.f3.resultTypes.toList.any ((Tryz.pinned.checked.prog).loopsFrom ·))) = true := by kernel_rfl
theorem k22 : ((Rows.fnErrorsRow.plainKeys == (Tryz.pinned.checked.prog).plainKeys)) = true := by kernel_rfl
theorem k23 : (Rows.fnErrorsRow.shortTexts.isNone) = true := by kernel_rfl
theorem k24 : ((Tryz.pinned.checked.prog).stopsHeard) = true := by kernel_rfl
theorem k25 : ((Tryz.pinned.checked.prog).mayEnter) = true := by kernel_rfl
theorem k26 : ((Rows.fnErrorsRow.lifted == (Tryz.pinned.checked.prog).liftsFinal)) = true := by kernel_rfl
theorem k27 : (((Tryz.pinned.checked.prog).make == some Rows.fnErrorsRow.make)) = true := by kernel_rfl
theorem k28 : ((Rows.fnErrorsRow.kinds == (if Rows.fnErrorsRow.domain.isEmpty then [] else Tryz.f3.params.toList.map fun t => match (Tryz.pinned.checked.prog).underlying t with | some (.int k) => some k | _ => none))) = true := by kernel_rfl
theorem k29 : ((Rows.fnErrorsRow.pinned == Rows.fnErrorsRow.pinnedBy)) = true := by kernel_rfl
theorem k30 : ((Rows.fnErrorsRow.veiled == (Tryz.f3.params.toList ++ Rows.fnErrorsSpec.plain.varTypes (Tryz.pinned.checked.prog) ++ Tryz.f3.resultTypes.toList).any ((Tryz.pinned.checked.prog).veiledRec ·))) = true := by kernel_rfl
theorem k31 : (Rows.fnErrorsRow.veiledFits (Tryz.pinned.checked.prog) Tryz.f3.params.toList (Tryz.f3.params.toList ++ Rows.fnErrorsSpec.plain.varTypes (Tryz.pinned.checked.prog) ++ Tryz.f3.resultTypes.toList)) = true := by kernel_rfl
theorem closed : joinedFacts (Tryz.pinned.checked.prog) 3 Tryz.f3 Rows.fnErrorsSpec Rows.fnErrorsRow = true := joined_of _ _ _ _ _ k0 k1 k2 k3 k4 k5 k6 k7 k8 k9 k10 k11 k12 k13 k14 k15 k16 k17 k18 k19 k20 k21 k22 k23 k24 k25 k26 k27 k28 k29 k30 k31
end FnErrors
end Go.Proofs.YtlbhebmjdaaglaaGreatDoor
