/-
  DERIVED. GIVEN WITH THE SEED: THE CARDS: each row of YtcllaplddebilaaGreatDoorRows.lean that lists a variable, with what it lists TIED to the program's text (the seventh form; the later family's looks); each row that meets fmt, with fmt's text TOLD by the authors' own Lean function (tested against real Go, not proved from fmt's source: count such statements apart). THE CARD IS WHAT COUNTS. Prove the row's statement (the work); the ties are given (YtcllaplddebilaaGreatDoorTie.lean); close each card by the builder's one call (the guide's Derived/Test/ToyasCard.lean, 'card_holds'). Laid BY PROGRAM, IN A SANDBOX (cutbox-door.mjs). By AI agents, Wed Nov 11 2026. No macro, syntax, notation, axiom, sorry.
-/
import Derived.Test.YtcllaplddebilaaGreatDoorRows
import GoSem.ClaimSeven
namespace Go.Proofs.YtcllaplddebilaaGreatDoor
namespace Rows

/-- THE TIED CARD OF 'laws.FnKHappens'. -/
def fnKHappensCard : Claim7 := { stood := { row := fnKHappensRow, standIns := [], harness := (true, "d01ad88f7ead8dcd87c228292f6d2240ccff6ae690c49f8dbf3cabb1a99ef396"), looks := true }, kinds := [], alts := [], laidByText := true, laidKinds := [.data, .data, .data, .data, .sentinel, .sentinel, .sentinel, .data, .widerDeep, .widerDeep, .sentinel, .sentinel, .sentinel, .sentinel, .sentinel, .sentinel, .sentinel, .data, .data, .data, .data, .data, .data, .data, .mapped, .pinned], laidTests := true, laidLooks := .later }
def FnKHappensCardSaid : Prop := Claim7.holds Tryz.pinned (.plain (OpenSpec.ofChange fnKHappensSpec)) fnKHappensCard

/-- THE TIED CARD OF 'laws.FnKMatch'. -/
def fnKMatchCard : Claim7 := { stood := { row := fnKMatchRow, standIns := [], harness := (true, "d01ad88f7ead8dcd87c228292f6d2240ccff6ae690c49f8dbf3cabb1a99ef396"), looks := true }, kinds := [], alts := [], laidByText := true, laidKinds := [.data, .data, .data, .data, .sentinel, .sentinel, .sentinel, .data, .widerDeep, .widerDeep, .sentinel, .sentinel, .sentinel, .sentinel, .sentinel, .sentinel, .sentinel, .data, .data, .data, .data, .data, .data, .data, .mapped, .pinned], laidTests := true, laidLooks := .later }
def FnKMatchCardSaid : Prop := Claim7.holds Tryz.pinned (.plain (OpenSpec.ofChange fnKMatchSpec)) fnKMatchCard

/-- THE SECOND FORM's CARD OF 'laws.FnKHappens'. -/
def fnKHappensUptoCard : Claim7 := { stood := { row := fnKHappensUptoRow, standIns := [], harness := (true, "d01ad88f7ead8dcd87c228292f6d2240ccff6ae690c49f8dbf3cabb1a99ef396"), looks := true }, kinds := [], alts := [], laidByText := true, laidKinds := [.data, .data, .data, .data, .sentinel, .sentinel, .sentinel, .data, .widerDeep, .widerDeep, .sentinel, .sentinel, .sentinel, .sentinel, .sentinel, .sentinel, .sentinel, .data, .data, .data, .data, .data, .data, .data, .mapped, .pinned], laidTests := true, laidLooks := .later }
def FnKHappensUptoCardSaid : Prop := Claim7.holds Tryz.pinned (.plain (OpenSpec.upto fnKHappensSpec)) fnKHappensUptoCard

/-- THE SECOND FORM's CARD OF 'laws.FnKMatch'. -/
def fnKMatchUptoCard : Claim7 := { stood := { row := fnKMatchUptoRow, standIns := [], harness := (true, "d01ad88f7ead8dcd87c228292f6d2240ccff6ae690c49f8dbf3cabb1a99ef396"), looks := true }, kinds := [], alts := [], laidByText := true, laidKinds := [.data, .data, .data, .data, .sentinel, .sentinel, .sentinel, .data, .widerDeep, .widerDeep, .sentinel, .sentinel, .sentinel, .sentinel, .sentinel, .sentinel, .sentinel, .data, .data, .data, .data, .data, .data, .data, .mapped, .pinned], laidTests := true, laidLooks := .later }
def FnKMatchUptoCardSaid : Prop := Claim7.holds Tryz.pinned (.plain (OpenSpec.upto fnKMatchSpec)) fnKMatchUptoCard
end Rows
end Go.Proofs.YtcllaplddebilaaGreatDoor
