/-
  DERIVED. GIVEN WITH THE SEED: THE CARDS: each row of YbulkdetkGreatDoorRows.lean that lists a variable, with what it lists TIED to the program's text (the seventh form; the later family's looks); each row that meets fmt, with fmt's text TOLD by the authors' own Lean function (tested against real Go, not proved from fmt's source: count such statements apart). THE CARD IS WHAT COUNTS. Prove the row's statement (the work); the ties are given (YbulkdetkGreatDoorTie.lean); close each card by the builder's one call (the guide's Derived/Test/ToyasCard.lean, 'card_holds'). Laid BY PROGRAM, IN A SANDBOX (cutbox-door.mjs). By AI agents, Wed Nov 11 2026. No macro, syntax, notation, axiom, sorry.
-/
import Derived.Test.YbulkdetkGreatDoorRows
import GoSem.ClaimSeven
namespace Go.Proofs.YbulkdetkGreatDoor
namespace Rows

/-- THE TIED CARD OF 'engine.LawS5301CAlone'. -/
def lawS5301CAloneCard : Claim7 := { stood := { row := lawS5301CAloneRow, standIns := [], harness := (true, "49abe7b3400768c31719c6fe02bf0b330ac3d6f1c4a6cdad190a74175ab2f110"), looks := false }, kinds := [], alts := [], laidByText := true, laidKinds := [.data, .data], laidTests := true, laidLooks := .later }
def LawS5301CAloneCardSaid : Prop := Claim7.holds Ybaz.pinned (.plain (OpenSpec.ofChange lawS5301CAloneSpec)) lawS5301CAloneCard

/-- THE TIED CARD OF 'engine.LawS5301CInsert'. -/
def lawS5301CInsertCard : Claim7 := { stood := { row := lawS5301CInsertRow, standIns := [], harness := (true, "49abe7b3400768c31719c6fe02bf0b330ac3d6f1c4a6cdad190a74175ab2f110"), looks := false }, kinds := [], alts := [], laidByText := true, laidKinds := [.data, .data], laidTests := true, laidLooks := .later }
def LawS5301CInsertCardSaid : Prop := Claim7.holds Ybaz.pinned (.plain (OpenSpec.ofChange lawS5301CInsertSpec)) lawS5301CInsertCard
end Rows
end Go.Proofs.YbulkdetkGreatDoor
