/-
  DERIVED. GIVEN WITH THE SEED: THE CARDS: each row of YtkhbljlnpgpaaacGreatDoorRows.lean that lists a variable, with what it lists TIED to the program's text (the seventh form; the later family's looks); each row that meets fmt, with fmt's text TOLD by the authors' own Lean function (tested against real Go, not proved from fmt's source: count such statements apart). THE CARD IS WHAT COUNTS. Prove the row's statement (the work); the ties are given (YtkhbljlnpgpaaacGreatDoorTie.lean); close each card by the builder's one call (the guide's Derived/Test/ToyasCard.lean, 'card_holds'). Laid BY PROGRAM, IN A SANDBOX (cutbox-door.mjs). By AI agents, Wed Nov 11 2026. No macro, syntax, notation, axiom, sorry.
-/
import Derived.Test.YtkhbljlnpgpaaacGreatDoorRows
import GoSem.ClaimSeven
namespace Go.Proofs.YtkhbljlnpgpaaacGreatDoor
namespace Rows

/-- THE TIED CARD OF 'laws.FnBitor'. -/
def fnBitorCard : Claim7 := { stood := { row := fnBitorRow, standIns := [], harness := (true, "f95d6c8e181357951592ee2d56f6c312ba9ece623a94fcd7d2a8f6c6d7223a4e"), looks := true }, kinds := [], alts := [], laidByText := true, laidKinds := [.data, .data, .widerDeep, .widerDeep, .data, .data, .data, .data, .data, .sentinel, .sentinel, .pinned, .pinned], laidTests := true, laidLooks := .later }
def FnBitorCardSaid : Prop := Claim7.holds Tryz.pinned (.plain (OpenSpec.ofChange fnBitorSpec)) fnBitorCard

/-- THE SECOND FORM's CARD OF 'laws.FnBitor'. -/
def fnBitorUptoCard : Claim7 := { stood := { row := fnBitorUptoRow, standIns := [], harness := (true, "f95d6c8e181357951592ee2d56f6c312ba9ece623a94fcd7d2a8f6c6d7223a4e"), looks := true }, kinds := [], alts := [], laidByText := true, laidKinds := [.data, .data, .widerDeep, .widerDeep, .data, .data, .data, .data, .data, .sentinel, .sentinel, .pinned, .pinned], laidTests := true, laidLooks := .later }
def FnBitorUptoCardSaid : Prop := Claim7.holds Tryz.pinned (.plain (OpenSpec.upto fnBitorSpec)) fnBitorUptoCard
end Rows
end Go.Proofs.YtkhbljlnpgpaaacGreatDoor
