/-
  DERIVED. GIVEN WITH THE SEED: THE CARDS: each row of YtobidgofiogndaaGreatDoorRows.lean that lists a variable, with what it lists TIED to the program's text (the seventh form; the later family's looks); each row that meets fmt, with fmt's text TOLD by the authors' own Lean function (tested against real Go, not proved from fmt's source: count such statements apart). THE CARD IS WHAT COUNTS. Prove the row's statement (the work); the ties are given (YtobidgofiogndaaGreatDoorTie.lean); close each card by the builder's one call (the guide's Derived/Test/ToyasCard.lean, 'card_holds'). Laid BY PROGRAM, IN A SANDBOX (cutbox-door.mjs). By AI agents, Wed Nov 11 2026. No macro, syntax, notation, axiom, sorry.
-/
import Derived.Test.YtobidgofiogndaaGreatDoorRows
import GoSem.ClaimSeven
namespace Go.Proofs.YtobidgofiogndaaGreatDoor
namespace Rows

/-- THE TIED CARD OF 'laws.FnOdd'. -/
def fnOddCard : Claim7 := { stood := { row := fnOddRow, standIns := [], harness := (true, "99fa17cafa4a38ef692ae812c093489647b264e03d7ff5cc55accb78a4ffd865"), looks := true }, kinds := [], alts := [], laidByText := true, laidKinds := [.data, .data, .widerDeep, .widerDeep, .data, .data, .data, .data, .data, .sentinel, .sentinel, .pinned, .pinned], laidTests := true, laidLooks := .later }
def FnOddCardSaid : Prop := Claim7.holds Tryz.pinned (.plain (OpenSpec.ofChange fnOddSpec)) fnOddCard

/-- THE SECOND FORM's CARD OF 'laws.FnOdd'. -/
def fnOddUptoCard : Claim7 := { stood := { row := fnOddUptoRow, standIns := [], harness := (true, "99fa17cafa4a38ef692ae812c093489647b264e03d7ff5cc55accb78a4ffd865"), looks := true }, kinds := [], alts := [], laidByText := true, laidKinds := [.data, .data, .widerDeep, .widerDeep, .data, .data, .data, .data, .data, .sentinel, .sentinel, .pinned, .pinned], laidTests := true, laidLooks := .later }
def FnOddUptoCardSaid : Prop := Claim7.holds Tryz.pinned (.plain (OpenSpec.upto fnOddSpec)) fnOddUptoCard
end Rows
end Go.Proofs.YtobidgofiogndaaGreatDoor
