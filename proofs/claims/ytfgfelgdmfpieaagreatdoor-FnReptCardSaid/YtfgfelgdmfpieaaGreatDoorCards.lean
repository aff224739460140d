/-
  DERIVED. GIVEN WITH THE SEED: THE CARDS: each row of YtfgfelgdmfpieaaGreatDoorRows.lean that lists a variable, with what it lists TIED to the program's text (the seventh form; the later family's looks); each row that meets fmt, with fmt's text TOLD by the authors' own Lean function (tested against real Go, not proved from fmt's source: count such statements apart). THE CARD IS WHAT COUNTS. Prove the row's statement (the work); the ties are given (YtfgfelgdmfpieaaGreatDoorTie.lean); close each card by the builder's one call (the guide's Derived/Test/ToyasCard.lean, 'card_holds'). Laid BY PROGRAM, IN A SANDBOX (cutbox-door.mjs). By AI agents, Wed Nov 11 2026. No macro, syntax, notation, axiom, sorry.
-/
import Derived.Test.YtfgfelgdmfpieaaGreatDoorRows
import GoSem.ClaimSeven
namespace Go.Proofs.YtfgfelgdmfpieaaGreatDoor
namespace Rows

/-- THE TIED CARD OF 'laws.FnRept'. -/
def fnReptCard : Claim7 := { stood := { row := fnReptRow, standIns := [], harness := (true, "9dfdc415cd34bd27072f8e1d544a85068447c97dc6e5d7b2927622b03052ea94"), looks := true }, kinds := [], alts := [], laidByText := true, laidKinds := [.data, .data, .widerDeep, .widerDeep, .data, .data, .data, .data, .data, .sentinel, .sentinel, .sentinel, .pinned, .pinned], laidTests := true, laidLooks := .later }
def FnReptCardSaid : Prop := Claim7.holds Tryz.pinned (.plain (OpenSpec.ofChange fnReptSpec)) fnReptCard

/-- THE SECOND FORM's CARD OF 'laws.FnRept'. -/
def fnReptUptoCard : Claim7 := { stood := { row := fnReptUptoRow, standIns := [], harness := (true, "9dfdc415cd34bd27072f8e1d544a85068447c97dc6e5d7b2927622b03052ea94"), looks := true }, kinds := [], alts := [], laidByText := true, laidKinds := [.data, .data, .widerDeep, .widerDeep, .data, .data, .data, .data, .data, .sentinel, .sentinel, .sentinel, .pinned, .pinned], laidTests := true, laidLooks := .later }
def FnReptUptoCardSaid : Prop := Claim7.holds Tryz.pinned (.plain (OpenSpec.upto fnReptSpec)) fnReptUptoCard
end Rows
end Go.Proofs.YtfgfelgdmfpieaaGreatDoor
