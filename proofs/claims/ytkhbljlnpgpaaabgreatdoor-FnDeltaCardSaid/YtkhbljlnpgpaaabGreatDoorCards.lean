/-
  DERIVED. GIVEN WITH THE SEED: THE CARDS: each row of YtkhbljlnpgpaaabGreatDoorRows.lean that lists a variable, with what it lists TIED to the program's text (the seventh form; the later family's looks); each row that meets fmt, with fmt's text TOLD by the authors' own Lean function (tested against real Go, not proved from fmt's source: count such statements apart). THE CARD IS WHAT COUNTS. Prove the row's statement (the work); the ties are given (YtkhbljlnpgpaaabGreatDoorTie.lean); close each card by the builder's one call (the guide's Derived/Test/ToyasCard.lean, 'card_holds'). Laid BY PROGRAM, IN A SANDBOX (cutbox-door.mjs). By AI agents, Wed Nov 11 2026. No macro, syntax, notation, axiom, sorry.
-/
import Derived.Test.YtkhbljlnpgpaaabGreatDoorRows
import GoSem.ClaimSeven
namespace Go.Proofs.YtkhbljlnpgpaaabGreatDoor
namespace Rows

/-- THE TIED CARD OF 'laws.FnDelta'. -/
def fnDeltaCard : Claim7 := { stood := { row := fnDeltaRow, standIns := [], harness := (true, "1c436ab1745b15834e1ee0f7f5daf1c60177e7069592f3ef554bbf2b924cdde9"), looks := true }, kinds := [], alts := [], laidByText := true, laidKinds := [.data, .data, .widerDeep, .widerDeep, .data, .data, .data, .data, .data, .sentinel, .sentinel, .pinned, .pinned], laidTests := true, laidLooks := .later }
def FnDeltaCardSaid : Prop := Claim7.holds Tryz.pinned (.plain (OpenSpec.ofChange fnDeltaSpec)) fnDeltaCard

/-- THE SECOND FORM's CARD OF 'laws.FnDelta'. -/
def fnDeltaUptoCard : Claim7 := { stood := { row := fnDeltaUptoRow, standIns := [], harness := (true, "1c436ab1745b15834e1ee0f7f5daf1c60177e7069592f3ef554bbf2b924cdde9"), looks := true }, kinds := [], alts := [], laidByText := true, laidKinds := [.data, .data, .widerDeep, .widerDeep, .data, .data, .data, .data, .data, .sentinel, .sentinel, .pinned, .pinned], laidTests := true, laidLooks := .later }
def FnDeltaUptoCardSaid : Prop := Claim7.holds Tryz.pinned (.plain (OpenSpec.upto fnDeltaSpec)) fnDeltaUptoCard
end Rows
end Go.Proofs.YtkhbljlnpgpaaabGreatDoor
