/-
  DERIVED. GIVEN WITH THE SEED: THE CARDS: each row of YtdakljeladhciaaGreatDoorRows.lean that lists a variable, with what it lists TIED to the program's text (the seventh form; the later family's looks); each row that meets fmt, with fmt's text TOLD by the authors' own Lean function (tested against real Go, not proved from fmt's source: count such statements apart). THE CARD IS WHAT COUNTS. Prove the row's statement (the work); the ties are given (YtdakljeladhciaaGreatDoorTie.lean); close each card by the builder's one call (the guide's Derived/Test/ToyasCard.lean, 'card_holds'). Laid BY PROGRAM, IN A SANDBOX (cutbox-door.mjs). By AI agents, Wed Nov 11 2026. No macro, syntax, notation, axiom, sorry.
-/
import Derived.Test.YtdakljeladhciaaGreatDoorRows
import GoSem.ClaimSeven
namespace Go.Proofs.YtdakljeladhciaaGreatDoor
namespace Rows

/-- THE TIED CARD OF 'laws.FnSumproduct'. -/
def fnSumproductCard : Claim7 := { stood := { row := fnSumproductRow, standIns := [], harness := (true, "86f5047d598886c54a8b82c24852a783070d9e5a60b914b2e44cef08d83c1a83"), looks := true }, kinds := [], alts := [], laidByText := true, laidKinds := [.data, .data, .widerDeep, .widerDeep, .data, .data, .data, .data, .data, .sentinel, .sentinel, .pinned, .pinned], laidTests := true, laidLooks := .later }
def FnSumproductCardSaid : Prop := Claim7.holds Tryz.pinned (.plain (OpenSpec.ofChange fnSumproductSpec)) fnSumproductCard

/-- THE SECOND FORM's CARD OF 'laws.FnSumproduct'. -/
def fnSumproductUptoCard : Claim7 := { stood := { row := fnSumproductUptoRow, standIns := [], harness := (true, "86f5047d598886c54a8b82c24852a783070d9e5a60b914b2e44cef08d83c1a83"), looks := true }, kinds := [], alts := [], laidByText := true, laidKinds := [.data, .data, .widerDeep, .widerDeep, .data, .data, .data, .data, .data, .sentinel, .sentinel, .pinned, .pinned], laidTests := true, laidLooks := .later }
def FnSumproductUptoCardSaid : Prop := Claim7.holds Tryz.pinned (.plain (OpenSpec.upto fnSumproductSpec)) fnSumproductUptoCard
end Rows
end Go.Proofs.YtdakljeladhciaaGreatDoor
