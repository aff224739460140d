/-
  DERIVED. GIVEN WITH THE SEED: THE CARDS: each row of YtbehdafigmlnfaaGreatDoorRows.lean that lists a variable, with what it lists TIED to the program's text (the seventh form; the later family's looks); each row that meets fmt, with fmt's text TOLD by the authors' own Lean function (tested against real Go, not proved from fmt's source: count such statements apart). THE CARD IS WHAT COUNTS. Prove the row's statement (the work); the ties are given (YtbehdafigmlnfaaGreatDoorTie.lean); close each card by the builder's one call (the guide's Derived/Test/ToyasCard.lean, 'card_holds'). Laid BY PROGRAM, IN A SANDBOX (cutbox-door.mjs). By AI agents, Wed Nov 11 2026. No macro, syntax, notation, axiom, sorry.
-/
import Derived.Test.YtbehdafigmlnfaaGreatDoorRows
import GoSem.ClaimSeven
namespace Go.Proofs.YtbehdafigmlnfaaGreatDoor
namespace Rows

/-- THE TIED CARD OF 'laws.FnMax'. -/
def fnMaxCard : Claim7 := { stood := { row := fnMaxRow, standIns := [], harness := (true, "e77d2161fabb613b1fd1efb27de7ec066b4de8546a6eb2c0a3eeb7c5aeec4e71"), looks := true }, kinds := [], alts := [], laidByText := true, laidKinds := [.data, .data, .widerDeep, .widerDeep, .data, .data, .data, .data, .data, .sentinel, .sentinel, .pinned, .pinned], laidTests := true, laidLooks := .later }
def FnMaxCardSaid : Prop := Claim7.holds Tryz.pinned (.plain (OpenSpec.ofChange fnMaxSpec)) fnMaxCard

/-- THE SECOND FORM's CARD OF 'laws.FnMax'. -/
def fnMaxUptoCard : Claim7 := { stood := { row := fnMaxUptoRow, standIns := [], harness := (true, "e77d2161fabb613b1fd1efb27de7ec066b4de8546a6eb2c0a3eeb7c5aeec4e71"), looks := true }, kinds := [], alts := [], laidByText := true, laidKinds := [.data, .data, .widerDeep, .widerDeep, .data, .data, .data, .data, .data, .sentinel, .sentinel, .pinned, .pinned], laidTests := true, laidLooks := .later }
def FnMaxUptoCardSaid : Prop := Claim7.holds Tryz.pinned (.plain (OpenSpec.upto fnMaxSpec)) fnMaxUptoCard
end Rows
end Go.Proofs.YtbehdafigmlnfaaGreatDoor
