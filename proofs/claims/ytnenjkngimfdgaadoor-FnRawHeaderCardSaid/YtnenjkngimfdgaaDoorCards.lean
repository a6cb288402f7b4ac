/-
  DERIVED. GIVEN WITH THE SEED: THE CARDS: each row of YtnenjkngimfdgaaDoorRows.lean that lists a variable, with what it lists TIED to the program's text (the seventh form; the later family's looks); each row that meets fmt, with fmt's text TOLD by the authors' own Lean function (tested against real Go, not proved from fmt's source: count such statements apart). THE CARD IS WHAT COUNTS. Prove the row's statement (the work); the ties are given (YtnenjkngimfdgaaDoorTie.lean); close each card by the builder's one call (the guide's Derived/Test/ToyasCard.lean, 'card_holds'). Laid BY PROGRAM, IN A SANDBOX (cutbox-door.mjs). By AI agents, Wed Nov 11 2026. No macro, syntax, notation, axiom, sorry.
-/
import Derived.Test.YtnenjkngimfdgaaDoorRows
import GoSem.ClaimSeven
namespace Go.Proofs.YtnenjkngimfdgaaDoor
namespace Rows

/-- THE TIED CARD OF 'laws.FnIntOf'. -/
def fnIntOfCard : Claim7 := { stood := { row := fnIntOfRow, standIns := [], harness := (true, "7de385dcb64d241aadc32ef1b2a1dbdc0982c960e15330f05a5f66e24c13dc1d"), looks := true }, kinds := [], alts := [], laidByText := true, laidKinds := [.sentinel, .sentinel, .sentinel], laidTests := true, laidLooks := .later }
def FnIntOfCardSaid : Prop := Claim7.holds Tryd.pinned (.plain (OpenSpec.ofChange fnIntOfSpec)) fnIntOfCard

/-- THE TIED CARD OF 'laws.FnReadMore'. -/
def fnReadMoreCard : Claim7 := { stood := { row := fnReadMoreRow, standIns := [], harness := (true, "7de385dcb64d241aadc32ef1b2a1dbdc0982c960e15330f05a5f66e24c13dc1d"), looks := true }, kinds := [], alts := [], laidByText := true, laidKinds := [.sentinel, .sentinel, .sentinel], laidTests := true, laidLooks := .later }
def FnReadMoreCardSaid : Prop := Claim7.holds Tryd.pinned (.plain (OpenSpec.ofChange fnReadMoreSpec)) fnReadMoreCard

/-- THE TIED CARD OF 'laws.FnRawHeader'. -/
def fnRawHeaderCard : Claim7 := { stood := { row := fnRawHeaderRow, standIns := [], harness := (true, "7de385dcb64d241aadc32ef1b2a1dbdc0982c960e15330f05a5f66e24c13dc1d"), looks := true }, kinds := [], alts := [], laidByText := true, laidKinds := [.sentinel, .sentinel, .sentinel], laidTests := true, laidLooks := .later }
def FnRawHeaderCardSaid : Prop := Claim7.holds Tryd.pinned (.plain (OpenSpec.ofChange fnRawHeaderSpec)) fnRawHeaderCard

/-- THE TIED CARD OF 'laws.FnRawWhole'. -/
def fnRawWholeCard : Claim7 := { stood := { row := fnRawWholeRow, standIns := [], harness := (true, "7de385dcb64d241aadc32ef1b2a1dbdc0982c960e15330f05a5f66e24c13dc1d"), looks := true }, kinds := [], alts := [], laidByText := true, laidKinds := [.sentinel, .sentinel, .sentinel], laidTests := true, laidLooks := .later }
def FnRawWholeCardSaid : Prop := Claim7.holds Tryd.pinned (.plain (OpenSpec.ofChange fnRawWholeSpec)) fnRawWholeCard

/-- THE SECOND FORM's CARD OF 'laws.FnIntOf'. -/
def fnIntOfUptoCard : Claim7 := { stood := { row := fnIntOfUptoRow, standIns := [], harness := (true, "7de385dcb64d241aadc32ef1b2a1dbdc0982c960e15330f05a5f66e24c13dc1d"), looks := true }, kinds := [], alts := [], laidByText := true, laidKinds := [.sentinel, .sentinel, .sentinel], laidTests := true, laidLooks := .later }
def FnIntOfUptoCardSaid : Prop := Claim7.holds Tryd.pinned (.plain (OpenSpec.upto fnIntOfSpec)) fnIntOfUptoCard

/-- THE SECOND FORM's CARD OF 'laws.FnReadMore'. -/
def fnReadMoreUptoCard : Claim7 := { stood := { row := fnReadMoreUptoRow, standIns := [], harness := (true, "7de385dcb64d241aadc32ef1b2a1dbdc0982c960e15330f05a5f66e24c13dc1d"), looks := true }, kinds := [], alts := [], laidByText := true, laidKinds := [.sentinel, .sentinel, .sentinel], laidTests := true, laidLooks := .later }
def FnReadMoreUptoCardSaid : Prop := Claim7.holds Tryd.pinned (.plain (OpenSpec.upto fnReadMoreSpec)) fnReadMoreUptoCard

/-- THE SECOND FORM's CARD OF 'laws.FnRawHeader'. -/
def fnRawHeaderUptoCard : Claim7 := { stood := { row := fnRawHeaderUptoRow, standIns := [], harness := (true, "7de385dcb64d241aadc32ef1b2a1dbdc0982c960e15330f05a5f66e24c13dc1d"), looks := true }, kinds := [], alts := [], laidByText := true, laidKinds := [.sentinel, .sentinel, .sentinel], laidTests := true, laidLooks := .later }
def FnRawHeaderUptoCardSaid : Prop := Claim7.holds Tryd.pinned (.plain (OpenSpec.upto fnRawHeaderSpec)) fnRawHeaderUptoCard

/-- THE SECOND FORM's CARD OF 'laws.FnRawWhole'. -/
def fnRawWholeUptoCard : Claim7 := { stood := { row := fnRawWholeUptoRow, standIns := [], harness := (true, "7de385dcb64d241aadc32ef1b2a1dbdc0982c960e15330f05a5f66e24c13dc1d"), looks := true }, kinds := [], alts := [], laidByText := true, laidKinds := [.sentinel, .sentinel, .sentinel], laidTests := true, laidLooks := .later }
def FnRawWholeUptoCardSaid : Prop := Claim7.holds Tryd.pinned (.plain (OpenSpec.upto fnRawWholeSpec)) fnRawWholeUptoCard
end Rows
end Go.Proofs.YtnenjkngimfdgaaDoor
