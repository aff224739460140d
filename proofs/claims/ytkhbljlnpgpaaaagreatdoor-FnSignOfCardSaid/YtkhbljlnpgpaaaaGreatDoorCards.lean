/-
  DERIVED. GIVEN WITH THE SEED: THE CARDS: each row of YtkhbljlnpgpaaaaGreatDoorRows.lean that lists a variable, with what it lists TIED to the program's text (the seventh form; the later family's looks); each row that meets fmt, with fmt's text TOLD by the authors' own Lean function (tested against real Go, not proved from fmt's source: count such statements apart). THE CARD IS WHAT COUNTS. Prove the row's statement (the work); the ties are given (YtkhbljlnpgpaaaaGreatDoorTie.lean); close each card by the builder's one call (the guide's Derived/Test/ToyasCard.lean, 'card_holds'). Laid BY PROGRAM, IN A SANDBOX (cutbox-door.mjs). By AI agents, Wed Nov 11 2026. No macro, syntax, notation, axiom, sorry.
-/
import Derived.Test.YtkhbljlnpgpaaaaGreatDoorRows
import GoSem.ClaimSeven
namespace Go.Proofs.YtkhbljlnpgpaaaaGreatDoor
namespace Rows

/-- THE TIED CARD OF 'laws.FnSignOf'. -/
def fnSignOfCard : Claim7 := { stood := { row := fnSignOfRow, standIns := [], harness := (true, "cac8faa145dfcc6535f0b075dc530f41af96b0cdab2931c085c5e785a64d25b9"), looks := true }, kinds := [], alts := [], laidByText := true, laidKinds := [.data, .data, .widerDeep, .widerDeep, .data, .data, .data, .data, .data, .sentinel, .sentinel, .pinned, .pinned], laidTests := true, laidLooks := .later }
def FnSignOfCardSaid : Prop := Claim7.holds Tryz.pinned (.plain (OpenSpec.ofChange fnSignOfSpec)) fnSignOfCard

/-- THE SECOND FORM's CARD OF 'laws.FnSignOf'. -/
def fnSignOfUptoCard : Claim7 := { stood := { row := fnSignOfUptoRow, standIns := [], harness := (true, "cac8faa145dfcc6535f0b075dc530f41af96b0cdab2931c085c5e785a64d25b9"), looks := true }, kinds := [], alts := [], laidByText := true, laidKinds := [.data, .data, .widerDeep, .widerDeep, .data, .data, .data, .data, .data, .sentinel, .sentinel, .pinned, .pinned], laidTests := true, laidLooks := .later }
def FnSignOfUptoCardSaid : Prop := Claim7.holds Tryz.pinned (.plain (OpenSpec.upto fnSignOfSpec)) fnSignOfUptoCard
end Rows
end Go.Proofs.YtkhbljlnpgpaaaaGreatDoor
