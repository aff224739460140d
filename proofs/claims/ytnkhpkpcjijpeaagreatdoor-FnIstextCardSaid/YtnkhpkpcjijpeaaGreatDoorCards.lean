/-
  DERIVED. GIVEN WITH THE SEED: THE CARDS: each row of YtnkhpkpcjijpeaaGreatDoorRows.lean that lists a variable, with what it lists TIED to the program's text (the seventh form; the later family's looks); each row that meets fmt, with fmt's text TOLD by the authors' own Lean function (tested against real Go, not proved from fmt's source: count such statements apart). THE CARD IS WHAT COUNTS. Prove the row's statement (the work); the ties are given (YtnkhpkpcjijpeaaGreatDoorTie.lean); close each card by the builder's one call (the guide's Derived/Test/ToyasCard.lean, 'card_holds'). Laid BY PROGRAM, IN A SANDBOX (cutbox-door.mjs). By AI agents, Wed Nov 11 2026. No macro, syntax, notation, axiom, sorry.
-/
import Derived.Test.YtnkhpkpcjijpeaaGreatDoorRows
import GoSem.ClaimSeven
namespace Go.Proofs.YtnkhpkpcjijpeaaGreatDoor
namespace Rows

/-- THE TIED CARD OF 'laws.FnIstext'. -/
def fnIstextCard : Claim7 := { stood := { row := fnIstextRow, standIns := [], harness := (true, "50961c40e6c469434e33032d175230c8100d9d256a94bf7ed08e722430a7fc53"), looks := true }, kinds := [], alts := [], laidByText := true, laidKinds := [.data, .data, .widerDeep, .widerDeep, .data, .data, .data, .data, .data, .sentinel, .sentinel, .pinned, .pinned], laidTests := true, laidLooks := .later }
def FnIstextCardSaid : Prop := Claim7.holds Tryz.pinned (.plain (OpenSpec.ofChange fnIstextSpec)) fnIstextCard

/-- THE SECOND FORM's CARD OF 'laws.FnIstext'. -/
def fnIstextUptoCard : Claim7 := { stood := { row := fnIstextUptoRow, standIns := [], harness := (true, "50961c40e6c469434e33032d175230c8100d9d256a94bf7ed08e722430a7fc53"), looks := true }, kinds := [], alts := [], laidByText := true, laidKinds := [.data, .data, .widerDeep, .widerDeep, .data, .data, .data, .data, .data, .sentinel, .sentinel, .pinned, .pinned], laidTests := true, laidLooks := .later }
def FnIstextUptoCardSaid : Prop := Claim7.holds Tryz.pinned (.plain (OpenSpec.upto fnIstextSpec)) fnIstextUptoCard
end Rows
end Go.Proofs.YtnkhpkpcjijpeaaGreatDoor
