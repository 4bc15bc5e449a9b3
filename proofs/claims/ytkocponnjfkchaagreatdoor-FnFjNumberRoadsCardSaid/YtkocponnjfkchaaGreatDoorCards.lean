/-
  DERIVED. GIVEN WITH THE SEED: THE CARDS: each row of YtkocponnjfkchaaGreatDoorRows.lean that lists a variable, with what it lists TIED to the program's text (the seventh form; the later family's looks); each row that meets fmt, with fmt's text TOLD by the authors' own Lean function (tested against real Go, not proved from fmt's source: count such statements apart). THE CARD IS WHAT COUNTS. Prove the row's statement (the work); the ties are given (YtkocponnjfkchaaGreatDoorTie.lean); close each card by the builder's one call (the guide's Derived/Test/ToyasCard.lean, 'card_holds'). Laid BY PROGRAM, IN A SANDBOX (cutbox-door.mjs). By AI agents, Wed Nov 11 2026. No macro, syntax, notation, axiom, sorry.
-/
import Derived.Test.YtkocponnjfkchaaGreatDoorRows
import GoSem.ClaimSeven
namespace Go.Proofs.YtkocponnjfkchaaGreatDoor
namespace Rows

/-- THE TIED CARD OF 'laws.FnFjNumberRoads'. -/
def fnFjNumberRoadsCard : Claim7 := { stood := { row := fnFjNumberRoadsRow, standIns := [], harness := (true, "f67d6a5007337f93c4b8809b971fb4321deef9522b02e0f349cde68fcf3dca2e"), looks := true }, kinds := [], alts := [], laidByText := true, laidKinds := [.data, .data, .widerDeep, .widerDeep, .data, .data, .data, .data, .data, .data, .data, .data, .sentinel, .sentinel, .data, .pinned, .pinned], laidTests := true, laidLooks := .later }
def FnFjNumberRoadsCardSaid : Prop := Claim7.holds Tryz.pinned (.plain (OpenSpec.ofChange fnFjNumberRoadsSpec)) fnFjNumberRoadsCard

/-- THE SECOND FORM's CARD OF 'laws.FnFjNumberRoads'. -/
def fnFjNumberRoadsUptoCard : Claim7 := { stood := { row := fnFjNumberRoadsUptoRow, standIns := [], harness := (true, "f67d6a5007337f93c4b8809b971fb4321deef9522b02e0f349cde68fcf3dca2e"), looks := true }, kinds := [], alts := [], laidByText := true, laidKinds := [.data, .data, .widerDeep, .widerDeep, .data, .data, .data, .data, .data, .data, .data, .data, .sentinel, .sentinel, .data, .pinned, .pinned], laidTests := true, laidLooks := .later }
def FnFjNumberRoadsUptoCardSaid : Prop := Claim7.holds Tryz.pinned (.plain (OpenSpec.upto fnFjNumberRoadsSpec)) fnFjNumberRoadsUptoCard
end Rows
end Go.Proofs.YtkocponnjfkchaaGreatDoor
