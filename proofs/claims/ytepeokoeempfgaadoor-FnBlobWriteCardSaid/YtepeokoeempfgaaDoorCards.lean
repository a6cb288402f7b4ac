/-
  DERIVED. GIVEN WITH THE SEED: THE CARDS: each row of YtepeokoeempfgaaDoorRows.lean that lists a variable, with what it lists TIED to the program's text (the seventh form; the later family's looks); each row that meets fmt, with fmt's text TOLD by the authors' own Lean function (tested against real Go, not proved from fmt's source: count such statements apart). THE CARD IS WHAT COUNTS. Prove the row's statement (the work); the ties are given (YtepeokoeempfgaaDoorTie.lean); close each card by the builder's one call (the guide's Derived/Test/ToyasCard.lean, 'card_holds'). Laid BY PROGRAM, IN A SANDBOX (cutbox-door.mjs). By AI agents, Wed Nov 11 2026. No macro, syntax, notation, axiom, sorry.
-/
import Derived.Test.YtepeokoeempfgaaDoorRows
import GoSem.ClaimSeven
namespace Go.Proofs.YtepeokoeempfgaaDoor
namespace Rows

/-- THE TIED CARD OF 'laws.FnCommandTraits'. -/
def fnCommandTraitsCard : Claim7 := { stood := { row := fnCommandTraitsRow, standIns := [], harness := (true, "5ab771323bae1966fab91024e8be2aceef1878a17381d5391367b41fa7d33ae9"), looks := true }, kinds := [], alts := [], laidByText := true, laidKinds := [.data, .pinned, .pinned], laidTests := true, laidLooks := .later }
def FnCommandTraitsCardSaid : Prop := Claim7.holds Tryd.pinned (.plain (OpenSpec.ofChange fnCommandTraitsSpec)) fnCommandTraitsCard

/-- THE TIED CARD OF 'laws.FnBlobWrite'. -/
def fnBlobWriteCard : Claim7 := { stood := { row := fnBlobWriteRow, standIns := [], harness := (true, "5ab771323bae1966fab91024e8be2aceef1878a17381d5391367b41fa7d33ae9"), looks := true }, kinds := [], alts := [], laidByText := true, laidKinds := [.data, .data, .data, .sentinel, .sentinel, .sentinel], laidTests := true, laidLooks := .later }
def FnBlobWriteCardSaid : Prop := Claim7.holds Tryd.pinned (.plain (OpenSpec.ofChange fnBlobWriteSpec)) fnBlobWriteCard

/-- THE TIED CARD OF 'laws.FnScanArgs'. -/
def fnScanArgsCard : Claim7 := { stood := { row := fnScanArgsRow, standIns := [], harness := (true, "5ab771323bae1966fab91024e8be2aceef1878a17381d5391367b41fa7d33ae9"), looks := true }, kinds := [], alts := [], laidByText := true, laidKinds := [.data, .data, .data, .data, .pinned, .pinned], laidTests := true, laidLooks := .later }
def FnScanArgsCardSaid : Prop := Claim7.holds Tryd.pinned (.plain (OpenSpec.ofChange fnScanArgsSpec)) fnScanArgsCard

/-- THE SECOND FORM's CARD OF 'laws.FnCommandTraits'. -/
def fnCommandTraitsUptoCard : Claim7 := { stood := { row := fnCommandTraitsUptoRow, standIns := [], harness := (true, "5ab771323bae1966fab91024e8be2aceef1878a17381d5391367b41fa7d33ae9"), looks := true }, kinds := [], alts := [], laidByText := true, laidKinds := [.data, .pinned, .pinned], laidTests := true, laidLooks := .later }
def FnCommandTraitsUptoCardSaid : Prop := Claim7.holds Tryd.pinned (.plain (OpenSpec.upto fnCommandTraitsSpec)) fnCommandTraitsUptoCard

/-- THE SECOND FORM's CARD OF 'laws.FnBlobWrite'. -/
def fnBlobWriteUptoCard : Claim7 := { stood := { row := fnBlobWriteUptoRow, standIns := [], harness := (true, "5ab771323bae1966fab91024e8be2aceef1878a17381d5391367b41fa7d33ae9"), looks := true }, kinds := [], alts := [], laidByText := true, laidKinds := [.data, .data, .data, .sentinel, .sentinel, .sentinel], laidTests := true, laidLooks := .later }
def FnBlobWriteUptoCardSaid : Prop := Claim7.holds Tryd.pinned (.plain (OpenSpec.upto fnBlobWriteSpec)) fnBlobWriteUptoCard

/-- THE SECOND FORM's CARD OF 'laws.FnScanArgs'. -/
def fnScanArgsUptoCard : Claim7 := { stood := { row := fnScanArgsUptoRow, standIns := [], harness := (true, "5ab771323bae1966fab91024e8be2aceef1878a17381d5391367b41fa7d33ae9"), looks := true }, kinds := [], alts := [], laidByText := true, laidKinds := [.data, .data, .data, .data, .pinned, .pinned], laidTests := true, laidLooks := .later }
def FnScanArgsUptoCardSaid : Prop := Claim7.holds Tryd.pinned (.plain (OpenSpec.upto fnScanArgsSpec)) fnScanArgsUptoCard
end Rows
end Go.Proofs.YtepeokoeempfgaaDoor
