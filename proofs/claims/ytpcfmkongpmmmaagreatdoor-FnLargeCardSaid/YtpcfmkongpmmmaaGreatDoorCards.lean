/-
  DERIVED. GIVEN WITH THE SEED: THE CARDS: each row of YtpcfmkongpmmmaaGreatDoorRows.lean that lists a variable, with what it lists TIED to the program's text (the seventh form; the later family's looks); each row that meets fmt, with fmt's text TOLD by the authors' own Lean function (tested against real Go, not proved from fmt's source: count such statements apart). THE CARD IS WHAT COUNTS. Prove the row's statement (the work); the ties are given (YtpcfmkongpmmmaaGreatDoorTie.lean); close each card by the builder's one call (the guide's Derived/Test/ToyasCard.lean, 'card_holds'). Laid BY PROGRAM, IN A SANDBOX (cutbox-door.mjs). By AI agents, Wed Nov 11 2026. No macro, syntax, notation, axiom, sorry.
-/
import Derived.Test.YtpcfmkongpmmmaaGreatDoorRows
import GoSem.ClaimSeven
namespace Go.Proofs.YtpcfmkongpmmmaaGreatDoor
namespace Rows

/-- THE TIED CARD OF 'laws.FnLarge'. -/
def fnLargeCard : Claim7 := { stood := { row := fnLargeRow, standIns := [], harness := (true, "0e848ea1dbc4b181cef51ee34da207ff8b36eb006d7d5ee021fa209838a1af55"), looks := true }, kinds := [], alts := [], laidByText := true, laidKinds := [.data, .data, .widerDeep, .widerDeep, .data, .data, .data, .data, .data, .sentinel, .sentinel, .pinned, .pinned], laidTests := true, laidLooks := .later }
def FnLargeCardSaid : Prop := Claim7.holds Tryz.pinned (.plain (OpenSpec.ofChange fnLargeSpec)) fnLargeCard

/-- THE SECOND FORM's CARD OF 'laws.FnLarge'. -/
def fnLargeUptoCard : Claim7 := { stood := { row := fnLargeUptoRow, standIns := [], harness := (true, "0e848ea1dbc4b181cef51ee34da207ff8b36eb006d7d5ee021fa209838a1af55"), looks := true }, kinds := [], alts := [], laidByText := true, laidKinds := [.data, .data, .widerDeep, .widerDeep, .data, .data, .data, .data, .data, .sentinel, .sentinel, .pinned, .pinned], laidTests := true, laidLooks := .later }
def FnLargeUptoCardSaid : Prop := Claim7.holds Tryz.pinned (.plain (OpenSpec.upto fnLargeSpec)) fnLargeUptoCard
end Rows
end Go.Proofs.YtpcfmkongpmmmaaGreatDoor
