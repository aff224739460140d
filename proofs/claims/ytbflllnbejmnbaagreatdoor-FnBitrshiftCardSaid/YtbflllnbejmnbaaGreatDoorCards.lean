/-
  DERIVED. GIVEN WITH THE SEED: THE CARDS: each row of YtbflllnbejmnbaaGreatDoorRows.lean that lists a variable, with what it lists TIED to the program's text (the seventh form; the later family's looks); each row that meets fmt, with fmt's text TOLD by the authors' own Lean function (tested against real Go, not proved from fmt's source: count such statements apart). THE CARD IS WHAT COUNTS. Prove the row's statement (the work); the ties are given (YtbflllnbejmnbaaGreatDoorTie.lean); close each card by the builder's one call (the guide's Derived/Test/ToyasCard.lean, 'card_holds'). Laid BY PROGRAM, IN A SANDBOX (cutbox-door.mjs). By AI agents, Wed Nov 11 2026. No macro, syntax, notation, axiom, sorry.
-/
import Derived.Test.YtbflllnbejmnbaaGreatDoorRows
import GoSem.ClaimSeven
namespace Go.Proofs.YtbflllnbejmnbaaGreatDoor
namespace Rows

/-- THE TIED CARD OF 'laws.FnBitrshift'. -/
def fnBitrshiftCard : Claim7 := { stood := { row := fnBitrshiftRow, standIns := [], harness := (true, "37775e975fd6962f711a07e7fe34c42533af6be6f666dc46cf444d97a4d73f84"), looks := true }, kinds := [], alts := [], laidByText := true, laidKinds := [.data, .data, .widerDeep, .widerDeep, .data, .data, .data, .data, .data, .sentinel, .sentinel, .pinned, .pinned], laidTests := true, laidLooks := .later }
def FnBitrshiftCardSaid : Prop := Claim7.holds Tryz.pinned (.plain (OpenSpec.ofChange fnBitrshiftSpec)) fnBitrshiftCard

/-- THE SECOND FORM's CARD OF 'laws.FnBitrshift'. -/
def fnBitrshiftUptoCard : Claim7 := { stood := { row := fnBitrshiftUptoRow, standIns := [], harness := (true, "37775e975fd6962f711a07e7fe34c42533af6be6f666dc46cf444d97a4d73f84"), looks := true }, kinds := [], alts := [], laidByText := true, laidKinds := [.data, .data, .widerDeep, .widerDeep, .data, .data, .data, .data, .data, .sentinel, .sentinel, .pinned, .pinned], laidTests := true, laidLooks := .later }
def FnBitrshiftUptoCardSaid : Prop := Claim7.holds Tryz.pinned (.plain (OpenSpec.upto fnBitrshiftSpec)) fnBitrshiftUptoCard
end Rows
end Go.Proofs.YtbflllnbejmnbaaGreatDoor
