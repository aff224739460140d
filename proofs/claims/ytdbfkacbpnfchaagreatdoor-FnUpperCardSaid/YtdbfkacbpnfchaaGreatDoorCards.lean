/-
  DERIVED. GIVEN WITH THE SEED: THE CARDS: each row of YtdbfkacbpnfchaaGreatDoorRows.lean that lists a variable, with what it lists TIED to the program's text (the seventh form; the later family's looks); each row that meets fmt, with fmt's text TOLD by the authors' own Lean function (tested against real Go, not proved from fmt's source: count such statements apart). THE CARD IS WHAT COUNTS. Prove the row's statement (the work); the ties are given (YtdbfkacbpnfchaaGreatDoorTie.lean); close each card by the builder's one call (the guide's Derived/Test/ToyasCard.lean, 'card_holds'). Laid BY PROGRAM, IN A SANDBOX (cutbox-door.mjs). By AI agents, Wed Nov 11 2026. No macro, syntax, notation, axiom, sorry.
-/
import Derived.Test.YtdbfkacbpnfchaaGreatDoorRows
import GoSem.ClaimSeven
namespace Go.Proofs.YtdbfkacbpnfchaaGreatDoor
namespace Rows

/-- THE TIED CARD OF 'laws.FnUpper'. -/
def fnUpperCard : Claim7 := { stood := { row := fnUpperRow, standIns := [], harness := (true, "34b20ac3d0006ac8c02e20819e9e8fe6ae5ecf343248b9255b50f1a66ba68ca8"), looks := true }, kinds := [], alts := [], laidByText := true, laidKinds := [.data, .data, .data, .data, .data, .pinned, .pinned, .pinned, .pinned], laidTests := true, laidLooks := .later }
def FnUpperCardSaid : Prop := Claim7.holds Tryz.pinned (.plain (OpenSpec.ofChange fnUpperSpec)) fnUpperCard

/-- THE SECOND FORM's CARD OF 'laws.FnUpper'. -/
def fnUpperUptoCard : Claim7 := { stood := { row := fnUpperUptoRow, standIns := [], harness := (true, "34b20ac3d0006ac8c02e20819e9e8fe6ae5ecf343248b9255b50f1a66ba68ca8"), looks := true }, kinds := [], alts := [], laidByText := true, laidKinds := [.data, .data, .data, .data, .data, .pinned, .pinned, .pinned, .pinned], laidTests := true, laidLooks := .later }
def FnUpperUptoCardSaid : Prop := Claim7.holds Tryz.pinned (.plain (OpenSpec.upto fnUpperSpec)) fnUpperUptoCard
end Rows
end Go.Proofs.YtdbfkacbpnfchaaGreatDoor
