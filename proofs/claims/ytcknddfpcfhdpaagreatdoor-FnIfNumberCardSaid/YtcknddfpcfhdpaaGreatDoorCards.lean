/-
  DERIVED. GIVEN WITH THE SEED: THE CARDS: each row of YtcknddfpcfhdpaaGreatDoorRows.lean that lists a variable, with what it lists TIED to the program's text (the seventh form; the later family's looks); each row that meets fmt, with fmt's text TOLD by the authors' own Lean function (tested against real Go, not proved from fmt's source: count such statements apart). THE CARD IS WHAT COUNTS. Prove the row's statement (the work); the ties are given (YtcknddfpcfhdpaaGreatDoorTie.lean); close each card by the builder's one call (the guide's Derived/Test/ToyasCard.lean, 'card_holds'). Laid BY PROGRAM, IN A SANDBOX (cutbox-door.mjs). By AI agents, Wed Nov 11 2026. No macro, syntax, notation, axiom, sorry.
-/
import Derived.Test.YtcknddfpcfhdpaaGreatDoorRows
import GoSem.ClaimSeven
namespace Go.Proofs.YtcknddfpcfhdpaaGreatDoor
namespace Rows

/-- THE TIED CARD OF 'laws.FnIfNumber'. -/
def fnIfNumberCard : Claim7 := { stood := { row := fnIfNumberRow, standIns := [], harness := (true, "9cbd059a56428f80d8b4ac763239edd2b9da21ef996fb45779cfdbedca2ce999"), looks := true }, kinds := [], alts := [], laidByText := true, laidKinds := [.data, .data, .widerDeep, .widerDeep, .data, .data, .data, .data, .data, .data, .sentinel, .sentinel, .sentinel, .sentinel, .pinned, .pinned, .pinned], laidTests := true, laidLooks := .later }
def FnIfNumberCardSaid : Prop := Claim7.holds Tryz.pinned (.plain (OpenSpec.ofChange fnIfNumberSpec)) fnIfNumberCard

/-- THE SECOND FORM's CARD OF 'laws.FnIfNumber'. -/
def fnIfNumberUptoCard : Claim7 := { stood := { row := fnIfNumberUptoRow, standIns := [], harness := (true, "9cbd059a56428f80d8b4ac763239edd2b9da21ef996fb45779cfdbedca2ce999"), looks := true }, kinds := [], alts := [], laidByText := true, laidKinds := [.data, .data, .widerDeep, .widerDeep, .data, .data, .data, .data, .data, .data, .sentinel, .sentinel, .sentinel, .sentinel, .pinned, .pinned, .pinned], laidTests := true, laidLooks := .later }
def FnIfNumberUptoCardSaid : Prop := Claim7.holds Tryz.pinned (.plain (OpenSpec.upto fnIfNumberSpec)) fnIfNumberUptoCard
end Rows
end Go.Proofs.YtcknddfpcfhdpaaGreatDoor
