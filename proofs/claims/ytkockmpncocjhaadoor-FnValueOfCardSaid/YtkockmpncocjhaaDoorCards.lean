/-
  DERIVED. GIVEN WITH THE SEED: THE CARDS: each row of YtkockmpncocjhaaDoorRows.lean that lists a variable, with what it lists TIED to the program's text (the seventh form; the later family's looks); each row that meets fmt, with fmt's text TOLD by the authors' own Lean function (tested against real Go, not proved from fmt's source: count such statements apart). THE CARD IS WHAT COUNTS. Prove the row's statement (the work); the ties are given (YtkockmpncocjhaaDoorTie.lean); close each card by the builder's one call (the guide's Derived/Test/ToyasCard.lean, 'card_holds'). Laid BY PROGRAM, IN A SANDBOX (cutbox-door.mjs). By AI agents, Wed Nov 11 2026. No macro, syntax, notation, axiom, sorry.
-/
import Derived.Test.YtkockmpncocjhaaDoorRows
import GoSem.ClaimSeven
namespace Go.Proofs.YtkockmpncocjhaaDoor
namespace Rows

/-- THE TIED CARD OF 'laws.FnValueOf'. -/
def fnValueOfCard : Claim7 := { stood := { row := fnValueOfRow, standIns := [], harness := (true, "2c92159e6ba3e5a3c538bf6cbbaec0fc3da195b2c31d58921008a861b40dfb43"), looks := true }, kinds := [], alts := [], laidByText := true, laidKinds := [.data, .pinned], laidTests := true, laidLooks := .later }
def FnValueOfCardSaid : Prop := Claim7.holds Tryd.pinned (.plain (OpenSpec.ofChange fnValueOfSpec)) fnValueOfCard

/-- THE SECOND FORM's CARD OF 'laws.FnValueOf'. -/
def fnValueOfUptoCard : Claim7 := { stood := { row := fnValueOfUptoRow, standIns := [], harness := (true, "2c92159e6ba3e5a3c538bf6cbbaec0fc3da195b2c31d58921008a861b40dfb43"), looks := true }, kinds := [], alts := [], laidByText := true, laidKinds := [.data, .pinned], laidTests := true, laidLooks := .later }
def FnValueOfUptoCardSaid : Prop := Claim7.holds Tryd.pinned (.plain (OpenSpec.upto fnValueOfSpec)) fnValueOfUptoCard
end Rows
end Go.Proofs.YtkockmpncocjhaaDoor
