/-
  DERIVED. GIVEN WITH THE SEED: THE CARDS: each row of YtlbhebmjdaaglaaGreatDoorRows.lean that lists a variable, with what it lists TIED to the program's text (the seventh form; the later family's looks); each row that meets fmt, with fmt's text TOLD by the authors' own Lean function (tested against real Go, not proved from fmt's source: count such statements apart). THE CARD IS WHAT COUNTS. Prove the row's statement (the work); the ties are given (YtlbhebmjdaaglaaGreatDoorTie.lean); close each card by the builder's one call (the guide's Derived/Test/ToyasCard.lean, 'card_holds'). Laid BY PROGRAM, IN A SANDBOX (cutbox-door.mjs). By AI agents, Wed Nov 11 2026. No macro, syntax, notation, axiom, sorry.
-/
import Derived.Test.YtlbhebmjdaaglaaGreatDoorRows
import GoSem.ClaimSeven
namespace Go.Proofs.YtlbhebmjdaaglaaGreatDoor
namespace Rows

/-- THE TIED CARD OF 'laws.FnErrors'. -/
def fnErrorsCard : Claim7 := { stood := { row := fnErrorsRow, standIns := [], harness := (true, "a97a6534b847338d65629596a948fdbefb3d0f4f905122b837348595182d12ee"), looks := true }, kinds := [], alts := [], laidByText := true, laidKinds := [.data, .data, .widerDeep, .widerDeep, .data, .data, .data, .data, .data, .data, .sentinel, .sentinel, .data, .data, .sentinel, .sentinel, .pinned, .pinned, .pinned, .pinned], laidTests := true, laidLooks := .later }
def FnErrorsCardSaid : Prop := Claim7.holds Tryz.pinned (.plain (OpenSpec.ofChange fnErrorsSpec)) fnErrorsCard

/-- THE SECOND FORM's CARD OF 'laws.FnErrors'. -/
def fnErrorsUptoCard : Claim7 := { stood := { row := fnErrorsUptoRow, standIns := [], harness := (true, "a97a6534b847338d65629596a948fdbefb3d0f4f905122b837348595182d12ee"), looks := true }, kinds := [], alts := [], laidByText := true, laidKinds := [.data, .data, .widerDeep, .widerDeep, .data, .data, .data, .data, .data, .data, .sentinel, .sentinel, .data, .data, .sentinel, .sentinel, .pinned, .pinned, .pinned, .pinned], laidTests := true, laidLooks := .later }
def FnErrorsUptoCardSaid : Prop := Claim7.holds Tryz.pinned (.plain (OpenSpec.upto fnErrorsSpec)) fnErrorsUptoCard
end Rows
end Go.Proofs.YtlbhebmjdaaglaaGreatDoor
