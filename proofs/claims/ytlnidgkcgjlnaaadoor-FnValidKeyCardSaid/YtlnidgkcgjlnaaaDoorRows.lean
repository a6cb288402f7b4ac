/-
  NARROWER THAN 'FOR EVERY INPUT', by the rows' own cells (each row's printed sentence says how): FnKindText: laid · FnValidKey: laid.
  DERIVED. THE GIVEN ROWS OF THIS SEAT. 2 by the template 'for every input the law returns true; each argument reads behind the call as it read before'; 0 by the template 'total and deterministic' (their statements: YtlnidgkcgjlnaaaDoorTotals.lean).
  GIVEN WITH THE SEED: the statements are not yours to turn. If you find one false, say at which input.
  Laid BY PROGRAM, IN A SANDBOX (cutbox-rows.mjs): the forced cells as the released guide's own fill.sh prints them over the translation cd000f1f2f11d2de… (all of the seat's roots in one cut). By AI agents, Wed Nov 11 2026. No macro, syntax, notation, axiom, sorry.
-/
import Derived.Test.YtlnidgkcgjlnaaaDoorChecked
import GoSem.PinnedTables
import GoSem.Claim
import GoSem.ClaimJoined
import GoSem.ClaimMapViews
import Derived.JoinedTies
import Derived.KernelRfl
namespace Go.Proofs.YtlnidgkcgjlnaaaDoor
/- THE CELL 'sum', in the pinned program and in every row, IS THE sha256 OF THE DUMP (.gsa) THAT YtlnidgkcgjlnaaaDoorProg.lean LOADS. Nothing in Lean hashes anything: it is a label: what it is worth is what the hold of that sum in a sandbox is worth. -/
noncomputable def Tryd.pinned : Pinned := { name := "ytlnidgkcgjlnaaadoor", sum := "cd000f1f2f11d2defd498ce1b96b5fd471b94ab59be867cc68a3f267a58e0847", checked := Tryd.checked }
namespace Rows
def none {H : Type} : Left H := { results := [], args := [] }

/- WHAT THE LISTED PACKAGE-LEVEL VARIABLES READ AS WHEN THE CALL BEGINS. Each datum BY PROGRAM (the guide's laid-datum.mjs) off the statement by which the dump's own 'gosem.cut.vars' lays the variable. In a bare row this is a premise. The card (YtlnidgkcgjlnaaaDoorCards.lean) ties it to the program's text. -/
def laid_pub_teleprinter_pub_lineprotocol_lineprotocol_kinds {H : Type} : DataW H := .slice [.lit (.string [117, 110, 107, 110, 111, 119, 110]), .lit (.string [115, 116, 114, 105, 110, 103]), .lit (.string [105, 110, 116]), .lit (.string [117, 105, 110, 116]), .lit (.string [102, 108, 111, 97, 116]), .lit (.string [98, 111, 111, 108])] []
def laid_unicode_utf8_acceptRanges {H : Type} : DataW H := .agg [.agg [.lit (.int .u8 128), .lit (.int .u8 191)], .agg [.lit (.int .u8 160), .lit (.int .u8 191)], .agg [.lit (.int .u8 128), .lit (.int .u8 159)], .agg [.lit (.int .u8 144), .lit (.int .u8 191)], .agg [.lit (.int .u8 128), .lit (.int .u8 143)], .agg [.lit (.int .u8 0), .lit (.int .u8 0)], .agg [.lit (.int .u8 0), .lit (.int .u8 0)], .agg [.lit (.int .u8 0), .lit (.int .u8 0)], .agg [.lit (.int .u8 0), .lit (.int .u8 0)], .agg [.lit (.int .u8 0), .lit (.int .u8 0)], .agg [.lit (.int .u8 0), .lit (.int .u8 0)], .agg [.lit (.int .u8 0), .lit (.int .u8 0)], .agg [.lit (.int .u8 0), .lit (.int .u8 0)], .agg [.lit (.int .u8 0), .lit (.int .u8 0)], .agg [.lit (.int .u8 0), .lit (.int .u8 0)], .agg [.lit (.int .u8 0), .lit (.int .u8 0)]]
/-- One of Go's own tables, pinned by name: the form's constant. -/
def laid_unicode_utf8_first : DataW Unit := Go.Pinned.utf8First

/-- 'laws.FnKindText': WHATEVER THE INPUT: true; the input reads as it did. -/
def fnKindTextSpec : ChangeSpec := { name := "fnKindText", fn := fun _ => fun
  | [d] => { results := [.lit (.bool true)], args := [d] }
  | _ => none }
def fnKindTextRow : OpenClaim := { program := "ytlnidgkcgjlnaaadoor", sum := "cd000f1f2f11d2defd498ce1b96b5fd471b94ab59be867cc68a3f267a58e0847", func := "pub-teleprinter/laws.FnKindText", spec := "fnKindText", unfollowed := true, recurses := true, named := ["pub-teleprinter/pub/lineprotocol/lineprotocol.kinds"], apart := false, laid := [("pub-teleprinter/pub/lineprotocol/lineprotocol.kinds", laid_pub_teleprinter_pub_lineprotocol_lineprotocol_kinds)] }
def FnKindTextSaid : Prop := fnKindTextRow.holds Tryd.pinned (OpenSpec.ofChange fnKindTextSpec)

/-- ITS FALSE NEIGHBOUR: 'it returns false'. Refute it at one input. -/
def fnKindTextWrong : ChangeSpec := { name := "fnKindText", fn := fun _ => fun
  | [d] => { results := [.lit (.bool false)], args := [d] }
  | _ => none }
def FnKindTextWrongFalsely : Prop := fnKindTextRow.holds Tryd.pinned (OpenSpec.ofChange fnKindTextWrong)

/-- 'laws.FnValidKey': WHATEVER THE INPUT: true; the input reads as it did. -/
def fnValidKeySpec : ChangeSpec := { name := "fnValidKey", fn := fun _ => fun
  | [d] => { results := [.lit (.bool true)], args := [d] }
  | _ => none }
def fnValidKeyRow : OpenClaim := { program := "ytlnidgkcgjlnaaadoor", sum := "cd000f1f2f11d2defd498ce1b96b5fd471b94ab59be867cc68a3f267a58e0847", func := "pub-teleprinter/laws.FnValidKey", spec := "fnValidKey", named := ["unicode/utf8.first", "unicode/utf8.acceptRanges"], apart := false, laid := [("unicode/utf8.acceptRanges", laid_unicode_utf8_acceptRanges), ("unicode/utf8.first", laid_unicode_utf8_first)] }
def FnValidKeySaid : Prop := fnValidKeyRow.holds Tryd.pinned (OpenSpec.ofChange fnValidKeySpec)

/-- ITS FALSE NEIGHBOUR: 'it returns false'. Refute it at one input. -/
def fnValidKeyWrong : ChangeSpec := { name := "fnValidKey", fn := fun _ => fun
  | [d] => { results := [.lit (.bool false)], args := [d] }
  | _ => none }
def FnValidKeyWrongFalsely : Prop := fnValidKeyRow.holds Tryd.pinned (OpenSpec.ofChange fnValidKeyWrong)

/- THE SECOND FORM. 'bulk': how many values and letters a reading holds, each counted each time it is reached (what is shared counts as often as it is met; a slice's spare places count too). A statement '..UptoSaid' is the law's where the arguments, and the package variables that the reading takes, are together of bulk at most 1048576: NARROWER than '..Said'. Prove '..Said' where nothing that the law and all that it calls make is longer than what came in: it says more and counts as full. Else prove '..UptoSaid'. A law counts once. -/
mutual
def uptoBulk {H : Type} : DataW H → Nat
  | .lit (.string bytes) => bytes.length + 1
  | .lit _ => 1
  | .nil => 1
  | .ptr d => uptoBulk d + 1
  | .slice elems spare => uptoBulkAll elems + uptoBulkAll spare + 1
  | .agg parts => uptoBulkAll parts + 1
  | .iface _ d => uptoBulk d + 1
  | .map entries => uptoBulkEntries entries + 1
  | .held _ => 1
def uptoBulkAll {H : Type} : List (DataW H) → Nat
  | [] => 0
  | d :: r => uptoBulk d + uptoBulkAll r
def uptoBulkEntries {H : Type} : List (Lit × DataW H) → Nat
  | [] => 0
  | x :: r => uptoBulkEntry x + uptoBulkEntries r
def uptoBulkEntry {H : Type} : Lit × DataW H → Nat
  | (.string bytes, d) => bytes.length + uptoBulk d + 1
  | (_, d) => uptoBulk d + 1
 end
def uptoSmall : (H : Type) → List (DataW H) → Bool := fun _ ds => decide (uptoBulkAll ds ≤ 1048576)
def OpenSpec.upto (s : _root_.Go.ChangeSpec) : _root_.Go.OpenSpec := { _root_.Go.OpenSpec.ofChange s with cond := some uptoSmall }

/-- 'laws.FnKindText', WHERE WHAT IT READS IS OF BULK AT MOST 1048576: true; the input reads as it did. -/
def fnKindTextUptoRow : OpenClaim := { program := "ytlnidgkcgjlnaaadoor", sum := "cd000f1f2f11d2defd498ce1b96b5fd471b94ab59be867cc68a3f267a58e0847", func := "pub-teleprinter/laws.FnKindText", spec := "fnKindText", unfollowed := true, recurses := true, named := ["pub-teleprinter/pub/lineprotocol/lineprotocol.kinds"], apart := false, laid := [("pub-teleprinter/pub/lineprotocol/lineprotocol.kinds", laid_pub_teleprinter_pub_lineprotocol_lineprotocol_kinds)], narrowed := true }
def FnKindTextUptoSaid : Prop := fnKindTextUptoRow.holds Tryd.pinned (OpenSpec.upto fnKindTextSpec)

/-- 'laws.FnValidKey', WHERE WHAT IT READS IS OF BULK AT MOST 1048576: true; the input reads as it did. -/
def fnValidKeyUptoRow : OpenClaim := { program := "ytlnidgkcgjlnaaadoor", sum := "cd000f1f2f11d2defd498ce1b96b5fd471b94ab59be867cc68a3f267a58e0847", func := "pub-teleprinter/laws.FnValidKey", spec := "fnValidKey", named := ["unicode/utf8.first", "unicode/utf8.acceptRanges"], apart := false, laid := [("unicode/utf8.acceptRanges", laid_unicode_utf8_acceptRanges), ("unicode/utf8.first", laid_unicode_utf8_first)], narrowed := true }
def FnValidKeyUptoSaid : Prop := fnValidKeyUptoRow.holds Tryd.pinned (OpenSpec.upto fnValidKeySpec)

end Rows
end Go.Proofs.YtlnidgkcgjlnaaaDoor
