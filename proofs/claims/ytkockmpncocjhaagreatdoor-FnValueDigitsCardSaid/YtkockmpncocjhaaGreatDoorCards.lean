/-
  DERIVED. GIVEN WITH THE SEED: THE CARDS: each row of YtkockmpncocjhaaGreatDoorRows.lean that lists a variable, with what it lists TIED to the program's text (the seventh form; the later family's looks); each row that meets fmt, with fmt's text TOLD by the authors' own Lean function (tested against real Go, not proved from fmt's source: count such statements apart). THE CARD IS WHAT COUNTS. Prove the row's statement (the work); the ties are given (YtkockmpncocjhaaGreatDoorTie.lean); close each card by the builder's one call (the guide's Derived/Test/ToyasCard.lean, 'card_holds'). Laid BY PROGRAM, IN A SANDBOX (cutbox-door.mjs). By AI agents, Wed Nov 11 2026. No macro, syntax, notation, axiom, sorry.
-/
import Derived.Test.YtkockmpncocjhaaGreatDoorRows
import GoSem.ClaimSeven
namespace Go.Proofs.YtkockmpncocjhaaGreatDoor
namespace Rows

/-- THE TIED CARD OF 'laws.FnValueDigits'. -/
def fnValueDigitsCard : Claim7 := { stood := { row := fnValueDigitsRow, standIns := [], harness := (true, "15ee807c5e9caa486aa28cda059f3a1ef87b5ab9a27d56a45f3ee525c6b30a4d"), looks := true }, kinds := [], alts := [], laidByText := true, laidKinds := [.data, .data, .widerDeep, .widerDeep, .data, .data, .data, .data, .data, .data, .sentinel, .sentinel, .sentinel, .sentinel, .pinned, .pinned, .pinned], laidTests := true, laidLooks := .later }
def FnValueDigitsCardSaid : Prop := Claim7.holds Tryz.pinned (.plain (OpenSpec.ofChange fnValueDigitsSpec)) fnValueDigitsCard

/-- THE SECOND FORM's CARD OF 'laws.FnValueDigits'. -/
def fnValueDigitsUptoCard : Claim7 := { stood := { row := fnValueDigitsUptoRow, standIns := [], harness := (true, "15ee807c5e9caa486aa28cda059f3a1ef87b5ab9a27d56a45f3ee525c6b30a4d"), looks := true }, kinds := [], alts := [], laidByText := true, laidKinds := [.data, .data, .widerDeep, .widerDeep, .data, .data, .data, .data, .data, .data, .sentinel, .sentinel, .sentinel, .sentinel, .pinned, .pinned, .pinned], laidTests := true, laidLooks := .later }
def FnValueDigitsUptoCardSaid : Prop := Claim7.holds Tryz.pinned (.plain (OpenSpec.upto fnValueDigitsSpec)) fnValueDigitsUptoCard
end Rows
end Go.Proofs.YtkockmpncocjhaaGreatDoor
