/-
  DERIVED. GIVEN WITH THE SEED: THE CARDS: each row of YtlnidgkcgjlnaaaDoorRows.lean that lists a variable, with what it lists TIED to the program's text (the seventh form; the later family's looks); each row that meets fmt, with fmt's text TOLD by the authors' own Lean function (tested against real Go, not proved from fmt's source: count such statements apart). THE CARD IS WHAT COUNTS. Prove the row's statement (the work); the ties are given (YtlnidgkcgjlnaaaDoorTie.lean); close each card by the builder's one call (the guide's Derived/Test/ToyasCard.lean, 'card_holds'). Laid BY PROGRAM, IN A SANDBOX (cutbox-door.mjs). By AI agents, Wed Nov 11 2026. No macro, syntax, notation, axiom, sorry.
-/
import Derived.Test.YtlnidgkcgjlnaaaDoorRows
import GoSem.ClaimSeven
namespace Go.Proofs.YtlnidgkcgjlnaaaDoor
namespace Rows

/-- THE TIED CARD OF 'laws.FnKindText'. -/
def fnKindTextCard : Claim7 := { stood := { row := fnKindTextRow, standIns := [], harness := (true, "fe8779ed2c891377c1fecfb1d84041061299ec56ee6700486bc355c90fd3c398"), looks := false }, kinds := [], alts := [], laidByText := true, laidKinds := [.data], laidTests := true, laidLooks := .later }
def FnKindTextCardSaid : Prop := Claim7.holds Tryd.pinned (.plain (OpenSpec.ofChange fnKindTextSpec)) fnKindTextCard

/-- THE TIED CARD OF 'laws.FnValidKey'. -/
def fnValidKeyCard : Claim7 := { stood := { row := fnValidKeyRow, standIns := [], harness := (true, "fe8779ed2c891377c1fecfb1d84041061299ec56ee6700486bc355c90fd3c398"), looks := false }, kinds := [], alts := [], laidByText := true, laidKinds := [.data, .pinned], laidTests := true, laidLooks := .later }
def FnValidKeyCardSaid : Prop := Claim7.holds Tryd.pinned (.plain (OpenSpec.ofChange fnValidKeySpec)) fnValidKeyCard

/-- THE SECOND FORM's CARD OF 'laws.FnKindText'. -/
def fnKindTextUptoCard : Claim7 := { stood := { row := fnKindTextUptoRow, standIns := [], harness := (true, "fe8779ed2c891377c1fecfb1d84041061299ec56ee6700486bc355c90fd3c398"), looks := false }, kinds := [], alts := [], laidByText := true, laidKinds := [.data], laidTests := true, laidLooks := .later }
def FnKindTextUptoCardSaid : Prop := Claim7.holds Tryd.pinned (.plain (OpenSpec.upto fnKindTextSpec)) fnKindTextUptoCard

/-- THE SECOND FORM's CARD OF 'laws.FnValidKey'. -/
def fnValidKeyUptoCard : Claim7 := { stood := { row := fnValidKeyUptoRow, standIns := [], harness := (true, "fe8779ed2c891377c1fecfb1d84041061299ec56ee6700486bc355c90fd3c398"), looks := false }, kinds := [], alts := [], laidByText := true, laidKinds := [.data, .pinned], laidTests := true, laidLooks := .later }
def FnValidKeyUptoCardSaid : Prop := Claim7.holds Tryd.pinned (.plain (OpenSpec.upto fnValidKeySpec)) fnValidKeyUptoCard
end Rows
end Go.Proofs.YtlnidgkcgjlnaaaDoor
