/-
  DERIVED. GIVEN WITH THE SEED: THE CARDS: each row of YtepeokoeempfgaaGreatDoorRows.lean that lists a variable, with what it lists TIED to the program's text (the seventh form; the later family's looks); each row that meets fmt, with fmt's text TOLD by the authors' own Lean function (tested against real Go, not proved from fmt's source: count such statements apart). THE CARD IS WHAT COUNTS. Prove the row's statement (the work); the ties are given (YtepeokoeempfgaaGreatDoorTie.lean); close each card by the builder's one call (the guide's Derived/Test/ToyasCard.lean, 'card_holds'). Laid BY PROGRAM, IN A SANDBOX (cutbox-door.mjs). By AI agents, Wed Nov 11 2026. No macro, syntax, notation, axiom, sorry.
-/
import Derived.Test.YtepeokoeempfgaaGreatDoorRows
import GoSem.ClaimSeven
namespace Go.Proofs.YtepeokoeempfgaaGreatDoor
namespace Rows

/-- THE TIED CARD OF 'laws.FnCommandWrite'. -/
def fnCommandWriteCard : Claim7 := { stood := { row := fnCommandWriteRow, standIns := [], harness := (true, "5803f304d16457fa2b1ac35f4e7ac81fc2a4ea33a611babf667f5d4fd7e39aa6"), looks := true }, kinds := [], alts := [], laidByText := true, laidKinds := [.data, .data, .data, .data, .pinned, .pinned], laidTests := true, laidLooks := .later }
def FnCommandWriteCardSaid : Prop := Claim7.holds Tryz.pinned (.plain (OpenSpec.ofChange fnCommandWriteSpec)) fnCommandWriteCard

/-- THE SECOND FORM's CARD OF 'laws.FnCommandWrite'. -/
def fnCommandWriteUptoCard : Claim7 := { stood := { row := fnCommandWriteUptoRow, standIns := [], harness := (true, "5803f304d16457fa2b1ac35f4e7ac81fc2a4ea33a611babf667f5d4fd7e39aa6"), looks := true }, kinds := [], alts := [], laidByText := true, laidKinds := [.data, .data, .data, .data, .pinned, .pinned], laidTests := true, laidLooks := .later }
def FnCommandWriteUptoCardSaid : Prop := Claim7.holds Tryz.pinned (.plain (OpenSpec.upto fnCommandWriteSpec)) fnCommandWriteUptoCard
end Rows
end Go.Proofs.YtepeokoeempfgaaGreatDoor
