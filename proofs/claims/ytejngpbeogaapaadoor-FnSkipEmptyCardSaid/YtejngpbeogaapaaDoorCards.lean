/-
  DERIVED. GIVEN WITH THE SEED: THE CARDS: each row of YtejngpbeogaapaaDoorRows.lean that lists a variable, with what it lists TIED to the program's text (the seventh form; the later family's looks); each row that meets fmt, with fmt's text TOLD by the authors' own Lean function (tested against real Go, not proved from fmt's source: count such statements apart). THE CARD IS WHAT COUNTS. Prove the row's statement (the work); the ties are given (YtejngpbeogaapaaDoorTie.lean); close each card by the builder's one call (the guide's Derived/Test/ToyasCard.lean, 'card_holds'). Laid BY PROGRAM, IN A SANDBOX (cutbox-door.mjs). By AI agents, Wed Nov 11 2026. No macro, syntax, notation, axiom, sorry.
-/
import Derived.Test.YtejngpbeogaapaaDoorRows
import GoSem.ClaimSeven
namespace Go.Proofs.YtejngpbeogaapaaDoor
namespace Rows

/-- THE TIED CARD OF 'laws.FnTake'. -/
def fnTakeCard : Claim7 := { stood := { row := fnTakeRow, standIns := [], harness := (true, "08b1054358c9615ce65d097b8ad6abb201eee10a4420643790ac68123b2f6615"), looks := true }, kinds := [], alts := [], laidByText := true, laidKinds := [.sentinel], laidTests := true, laidLooks := .later }
def FnTakeCardSaid : Prop := Claim7.holds Tryd.pinned (.plain (OpenSpec.ofChange fnTakeSpec)) fnTakeCard

/-- THE TIED CARD OF 'laws.FnSkipEmpty'. -/
def fnSkipEmptyCard : Claim7 := { stood := { row := fnSkipEmptyRow, standIns := [], harness := (true, "08b1054358c9615ce65d097b8ad6abb201eee10a4420643790ac68123b2f6615"), looks := true }, kinds := [], alts := [], laidByText := true, laidKinds := [.sentinel], laidTests := true, laidLooks := .later }
def FnSkipEmptyCardSaid : Prop := Claim7.holds Tryd.pinned (.plain (OpenSpec.ofChange fnSkipEmptySpec)) fnSkipEmptyCard

/-- THE TIED CARD OF 'laws.FnTakePieces'. -/
def fnTakePiecesCard : Claim7 := { stood := { row := fnTakePiecesRow, standIns := [], harness := (true, "08b1054358c9615ce65d097b8ad6abb201eee10a4420643790ac68123b2f6615"), looks := true }, kinds := [], alts := [], laidByText := true, laidKinds := [.data, .sentinel, .pinned, .pinned, .pinned, .pinned, .pinned, .pinned], laidTests := true, laidLooks := .later }
def FnTakePiecesCardSaid : Prop := Claim7.holds Tryd.pinned (.plain (OpenSpec.ofChange fnTakePiecesSpec)) fnTakePiecesCard

/-- THE TIED CARD OF 'laws.FnDecodeLong'. -/
def fnDecodeLongCard : Claim7 := { stood := { row := fnDecodeLongRow, standIns := [], harness := (true, "08b1054358c9615ce65d097b8ad6abb201eee10a4420643790ac68123b2f6615"), looks := true }, kinds := [], alts := [], laidByText := true, laidKinds := [.data, .sentinel, .sentinel, .pinned, .pinned, .pinned, .pinned, .pinned, .pinned], laidTests := true, laidLooks := .later }
def FnDecodeLongCardSaid : Prop := Claim7.holds Tryd.pinned (.plain (OpenSpec.ofChange fnDecodeLongSpec)) fnDecodeLongCard

/-- THE SECOND FORM's CARD OF 'laws.FnTake'. -/
def fnTakeUptoCard : Claim7 := { stood := { row := fnTakeUptoRow, standIns := [], harness := (true, "08b1054358c9615ce65d097b8ad6abb201eee10a4420643790ac68123b2f6615"), looks := true }, kinds := [], alts := [], laidByText := true, laidKinds := [.sentinel], laidTests := true, laidLooks := .later }
def FnTakeUptoCardSaid : Prop := Claim7.holds Tryd.pinned (.plain (OpenSpec.upto fnTakeSpec)) fnTakeUptoCard

/-- THE SECOND FORM's CARD OF 'laws.FnSkipEmpty'. -/
def fnSkipEmptyUptoCard : Claim7 := { stood := { row := fnSkipEmptyUptoRow, standIns := [], harness := (true, "08b1054358c9615ce65d097b8ad6abb201eee10a4420643790ac68123b2f6615"), looks := true }, kinds := [], alts := [], laidByText := true, laidKinds := [.sentinel], laidTests := true, laidLooks := .later }
def FnSkipEmptyUptoCardSaid : Prop := Claim7.holds Tryd.pinned (.plain (OpenSpec.upto fnSkipEmptySpec)) fnSkipEmptyUptoCard

/-- THE SECOND FORM's CARD OF 'laws.FnTakePieces'. -/
def fnTakePiecesUptoCard : Claim7 := { stood := { row := fnTakePiecesUptoRow, standIns := [], harness := (true, "08b1054358c9615ce65d097b8ad6abb201eee10a4420643790ac68123b2f6615"), looks := true }, kinds := [], alts := [], laidByText := true, laidKinds := [.data, .sentinel, .pinned, .pinned, .pinned, .pinned, .pinned, .pinned], laidTests := true, laidLooks := .later }
def FnTakePiecesUptoCardSaid : Prop := Claim7.holds Tryd.pinned (.plain (OpenSpec.upto fnTakePiecesSpec)) fnTakePiecesUptoCard

/-- THE SECOND FORM's CARD OF 'laws.FnDecodeLong'. -/
def fnDecodeLongUptoCard : Claim7 := { stood := { row := fnDecodeLongUptoRow, standIns := [], harness := (true, "08b1054358c9615ce65d097b8ad6abb201eee10a4420643790ac68123b2f6615"), looks := true }, kinds := [], alts := [], laidByText := true, laidKinds := [.data, .sentinel, .sentinel, .pinned, .pinned, .pinned, .pinned, .pinned, .pinned], laidTests := true, laidLooks := .later }
def FnDecodeLongUptoCardSaid : Prop := Claim7.holds Tryd.pinned (.plain (OpenSpec.upto fnDecodeLongSpec)) fnDecodeLongUptoCard
end Rows
end Go.Proofs.YtejngpbeogaapaaDoor
