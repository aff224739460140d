/-
  DERIVED. GIVEN WITH THE SEED: THE CARDS: each row of YtpibjonfkkiliaaGreatDoorRows.lean that lists a variable, with what it lists TIED to the program's text (the seventh form; the later family's looks); each row that meets fmt, with fmt's text TOLD by the authors' own Lean function (tested against real Go, not proved from fmt's source: count such statements apart). THE CARD IS WHAT COUNTS. Prove the row's statement (the work); the ties are given (YtpibjonfkkiliaaGreatDoorTie.lean); close each card by the builder's one call (the guide's Derived/Test/ToyasCard.lean, 'card_holds'). Laid BY PROGRAM, IN A SANDBOX (cutbox-door.mjs). By AI agents, Wed Nov 11 2026. No macro, syntax, notation, axiom, sorry.
-/
import Derived.Test.YtpibjonfkkiliaaGreatDoorRows
import GoSem.ClaimSeven
namespace Go.Proofs.YtpibjonfkkiliaaGreatDoor
namespace Rows

/-- THE TIED CARD OF 'laws.FnQuotient'. -/
def fnQuotientCard : Claim7 := { stood := { row := fnQuotientRow, standIns := [], harness := (true, "abd208c3fc2ab051bf7490d0324a82f4b520ef1553efdbb0f13b252012fde6f9"), looks := true }, kinds := [], alts := [], laidByText := true, laidKinds := [.data, .data, .widerDeep, .widerDeep, .data, .data, .data, .data, .data, .sentinel, .sentinel, .pinned, .pinned], laidTests := true, laidLooks := .later }
def FnQuotientCardSaid : Prop := Claim7.holds Tryz.pinned (.plain (OpenSpec.ofChange fnQuotientSpec)) fnQuotientCard

/-- THE SECOND FORM's CARD OF 'laws.FnQuotient'. -/
def fnQuotientUptoCard : Claim7 := { stood := { row := fnQuotientUptoRow, standIns := [], harness := (true, "abd208c3fc2ab051bf7490d0324a82f4b520ef1553efdbb0f13b252012fde6f9"), looks := true }, kinds := [], alts := [], laidByText := true, laidKinds := [.data, .data, .widerDeep, .widerDeep, .data, .data, .data, .data, .data, .sentinel, .sentinel, .pinned, .pinned], laidTests := true, laidLooks := .later }
def FnQuotientUptoCardSaid : Prop := Claim7.holds Tryz.pinned (.plain (OpenSpec.upto fnQuotientSpec)) fnQuotientUptoCard
end Rows
end Go.Proofs.YtpibjonfkkiliaaGreatDoor
