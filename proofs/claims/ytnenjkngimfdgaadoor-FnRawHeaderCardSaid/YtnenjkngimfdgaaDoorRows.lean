/-
  NARROWER THAN 'FOR EVERY INPUT', by the rows' own cells (each row's printed sentence says how): FnIntOf: laid · FnReadMore: laid · FnRawHeader: laid · FnRawWhole: loops, laid.
  DERIVED. THE GIVEN ROWS OF THIS SEAT. 4 by the template 'for every input the law returns true; each argument reads behind the call as it read before'; 0 by the template 'total and deterministic' (their statements: YtnenjkngimfdgaaDoorTotals.lean).
  GIVEN WITH THE SEED: the statements are not yours to turn. If you find one false, say at which input.
  Laid BY PROGRAM, IN A SANDBOX (cutbox-rows.mjs): the forced cells as the released guide's own fill.sh prints them over the translation 3ba8958d2c612a19… (all of the seat's roots in one cut). By AI agents, Wed Nov 11 2026. No macro, syntax, notation, axiom, sorry.
-/
import Derived.Test.YtnenjkngimfdgaaDoorChecked
import GoSem.Claim
import GoSem.ClaimJoined
import GoSem.ClaimMapViews
import Derived.JoinedTies
import Derived.KernelRfl
namespace Go.Proofs.YtnenjkngimfdgaaDoor
/- THE CELL 'sum', in the pinned program and in every row, IS THE sha256 OF THE DUMP (.gsa) THAT YtnenjkngimfdgaaDoorProg.lean LOADS. Nothing in Lean hashes anything: it is a label: what it is worth is what the hold of that sum in a sandbox is worth. -/
noncomputable def Tryd.pinned : Pinned := { name := "ytnenjkngimfdgaadoor", sum := "3ba8958d2c612a192758ca3525ea26b6f140afa18a5ab19ec812df2b5246b018", checked := Tryd.checked }
namespace Rows
def none {H : Type} : Left H := { results := [], args := [] }

/- WHAT THE LISTED PACKAGE-LEVEL VARIABLES READ AS WHEN THE CALL BEGINS. Each datum BY PROGRAM (the guide's laid-datum.mjs) off the statement by which the dump's own 'gosem.cut.vars' lays the variable. In a bare row this is a premise. The card (YtnenjkngimfdgaaDoorCards.lean) ties it to the program's text. -/
def laid_io_ErrShortBuffer {H : Type} : DataW H := .iface "*errors.errorString" (.ptr (.agg [.lit (.string [115, 104, 111, 114, 116, 32, 98, 117, 102, 102, 101, 114])]))
def laid_io_EOF {H : Type} : DataW H := .iface "*errors.errorString" (.ptr (.agg [.lit (.string [69, 79, 70])]))
def laid_io_ErrUnexpectedEOF {H : Type} : DataW H := .iface "*errors.errorString" (.ptr (.agg [.lit (.string [117, 110, 101, 120, 112, 101, 99, 116, 101, 100, 32, 69, 79, 70])]))

/-- 'laws.FnIntOf': WHATEVER THE INPUT: true; the input reads as it did. -/
def fnIntOfSpec : ChangeSpec := { name := "fnIntOf", fn := fun _ => fun
  | [d1, d2] => { results := [.lit (.bool true)], args := [d1, d2] }
  | _ => none }
def fnIntOfRow : OpenClaim := { program := "ytnenjkngimfdgaadoor", sum := "3ba8958d2c612a192758ca3525ea26b6f140afa18a5ab19ec812df2b5246b018", func := "pub-teleprinter/laws.FnIntOf", spec := "fnIntOf", unfollowed := true, recurses := true, named := ["io.ErrShortBuffer", "io.EOF", "io.ErrUnexpectedEOF"], apart := false, laid := [("io.ErrShortBuffer", laid_io_ErrShortBuffer), ("io.EOF", laid_io_EOF), ("io.ErrUnexpectedEOF", laid_io_ErrUnexpectedEOF)] }
def FnIntOfSaid : Prop := fnIntOfRow.holds Tryd.pinned (OpenSpec.ofChange fnIntOfSpec)

/-- ITS FALSE NEIGHBOUR: 'it returns false'. Refute it at one input. -/
def fnIntOfWrong : ChangeSpec := { name := "fnIntOf", fn := fun _ => fun
  | [d1, d2] => { results := [.lit (.bool false)], args := [d1, d2] }
  | _ => none }
def FnIntOfWrongFalsely : Prop := fnIntOfRow.holds Tryd.pinned (OpenSpec.ofChange fnIntOfWrong)

/-- 'laws.FnReadMore': WHATEVER THE INPUT: true; the input reads as it did. -/
def fnReadMoreSpec : ChangeSpec := { name := "fnReadMore", fn := fun _ => fun
  | [d1, d2, d3, d4] => { results := [.lit (.bool true)], args := [d1, d2, d3, d4] }
  | _ => none }
def fnReadMoreRow : OpenClaim := { program := "ytnenjkngimfdgaadoor", sum := "3ba8958d2c612a192758ca3525ea26b6f140afa18a5ab19ec812df2b5246b018", func := "pub-teleprinter/laws.FnReadMore", spec := "fnReadMore", unfollowed := true, recurses := true, named := ["io.ErrShortBuffer", "io.EOF", "io.ErrUnexpectedEOF"], apart := false, laid := [("io.ErrShortBuffer", laid_io_ErrShortBuffer), ("io.EOF", laid_io_EOF), ("io.ErrUnexpectedEOF", laid_io_ErrUnexpectedEOF)] }
def FnReadMoreSaid : Prop := fnReadMoreRow.holds Tryd.pinned (OpenSpec.ofChange fnReadMoreSpec)

/-- ITS FALSE NEIGHBOUR: 'it returns false'. Refute it at one input. -/
def fnReadMoreWrong : ChangeSpec := { name := "fnReadMore", fn := fun _ => fun
  | [d1, d2, d3, d4] => { results := [.lit (.bool false)], args := [d1, d2, d3, d4] }
  | _ => none }
def FnReadMoreWrongFalsely : Prop := fnReadMoreRow.holds Tryd.pinned (OpenSpec.ofChange fnReadMoreWrong)

/-- 'laws.FnRawHeader': WHATEVER THE INPUT: true; the input reads as it did. -/
def fnRawHeaderSpec : ChangeSpec := { name := "fnRawHeader", fn := fun _ => fun
  | [d1, d2] => { results := [.lit (.bool true)], args := [d1, d2] }
  | _ => none }
def fnRawHeaderRow : OpenClaim := { program := "ytnenjkngimfdgaadoor", sum := "3ba8958d2c612a192758ca3525ea26b6f140afa18a5ab19ec812df2b5246b018", func := "pub-teleprinter/laws.FnRawHeader", spec := "fnRawHeader", unfollowed := true, recurses := true, named := ["io.ErrShortBuffer", "io.EOF", "io.ErrUnexpectedEOF"], apart := false, laid := [("io.ErrShortBuffer", laid_io_ErrShortBuffer), ("io.EOF", laid_io_EOF), ("io.ErrUnexpectedEOF", laid_io_ErrUnexpectedEOF)] }
def FnRawHeaderSaid : Prop := fnRawHeaderRow.holds Tryd.pinned (OpenSpec.ofChange fnRawHeaderSpec)

/-- ITS FALSE NEIGHBOUR: 'it returns false'. Refute it at one input. -/
def fnRawHeaderWrong : ChangeSpec := { name := "fnRawHeader", fn := fun _ => fun
  | [d1, d2] => { results := [.lit (.bool false)], args := [d1, d2] }
  | _ => none }
def FnRawHeaderWrongFalsely : Prop := fnRawHeaderRow.holds Tryd.pinned (OpenSpec.ofChange fnRawHeaderWrong)

/-- 'laws.FnRawWhole': WHATEVER THE INPUT: true; the input reads as it did. -/
def fnRawWholeSpec : ChangeSpec := { name := "fnRawWhole", fn := fun _ => fun
  | [d1, d2, d3] => { results := [.lit (.bool true)], args := [d1, d2, d3] }
  | _ => none }
def fnRawWholeRow : OpenClaim := { program := "ytnenjkngimfdgaadoor", sum := "3ba8958d2c612a192758ca3525ea26b6f140afa18a5ab19ec812df2b5246b018", func := "pub-teleprinter/laws.FnRawWhole", spec := "fnRawWhole", unfollowed := true, recurses := true, named := ["io.ErrShortBuffer", "io.EOF", "io.ErrUnexpectedEOF"], loops := true, apart := false, laid := [("io.ErrShortBuffer", laid_io_ErrShortBuffer), ("io.EOF", laid_io_EOF), ("io.ErrUnexpectedEOF", laid_io_ErrUnexpectedEOF)] }
def FnRawWholeSaid : Prop := fnRawWholeRow.holds Tryd.pinned (OpenSpec.ofChange fnRawWholeSpec)

/-- ITS FALSE NEIGHBOUR: 'it returns false'. Refute it at one input. -/
def fnRawWholeWrong : ChangeSpec := { name := "fnRawWhole", fn := fun _ => fun
  | [d1, d2, d3] => { results := [.lit (.bool false)], args := [d1, d2, d3] }
  | _ => none }
def FnRawWholeWrongFalsely : Prop := fnRawWholeRow.holds Tryd.pinned (OpenSpec.ofChange fnRawWholeWrong)

/- THE SECOND FORM. 'bulk': how many values and letters a reading holds, each counted each time it is reached (what is shared counts as often as it is met; a slice's spare places count too). A statement '..UptoSaid' is the law's where the arguments, and the package variables that the reading takes, are together of bulk at most 1048576: NARROWER than '..Said'. Prove '..Said' where nothing that the law and all that it calls make is longer than what came in: it says more and counts as full. Else prove '..UptoSaid'. A law counts once. -/
mutual
def uptoBulk {H : Type} : DataW H → Nat
  | .lit (.string bytes) => bytes.length + 1
  | .lit _ => 1
  | .nil => 1
  | .ptr d => uptoBulk d + 1
  | .slice elems spare => uptoBulkAll elems + uptoBulkAll spare + 1
  | .agg parts => uptoBulkAll parts + 1
  | .iface _ d => uptoBulk d + 1
  | .map entries => uptoBulkEntries entries + 1
  | .held _ => 1
def uptoBulkAll {H : Type} : List (DataW H) → Nat
  | [] => 0
  | d :: r => uptoBulk d + uptoBulkAll r
def uptoBulkEntries {H : Type} : List (Lit × DataW H) → Nat
  | [] => 0
  | x :: r => uptoBulkEntry x + uptoBulkEntries r
def uptoBulkEntry {H : Type} : Lit × DataW H → Nat
  | (.string bytes, d) => bytes.length + uptoBulk d + 1
  | (_, d) => uptoBulk d + 1
 end
def uptoSmall : (H : Type) → List (DataW H) → Bool := fun _ ds => decide (uptoBulkAll ds ≤ 1048576)
def OpenSpec.upto (s : _root_.Go.ChangeSpec) : _root_.Go.OpenSpec := { _root_.Go.OpenSpec.ofChange s with cond := some uptoSmall }

/-- 'laws.FnIntOf', WHERE WHAT IT READS IS OF BULK AT MOST 1048576: true; the input reads as it did. -/
def fnIntOfUptoRow : OpenClaim := { program := "ytnenjkngimfdgaadoor", sum := "3ba8958d2c612a192758ca3525ea26b6f140afa18a5ab19ec812df2b5246b018", func := "pub-teleprinter/laws.FnIntOf", spec := "fnIntOf", unfollowed := true, recurses := true, named := ["io.ErrShortBuffer", "io.EOF", "io.ErrUnexpectedEOF"], apart := false, laid := [("io.ErrShortBuffer", laid_io_ErrShortBuffer), ("io.EOF", laid_io_EOF), ("io.ErrUnexpectedEOF", laid_io_ErrUnexpectedEOF)], narrowed := true }
def FnIntOfUptoSaid : Prop := fnIntOfUptoRow.holds Tryd.pinned (OpenSpec.upto fnIntOfSpec)

/-- 'laws.FnReadMore', WHERE WHAT IT READS IS OF BULK AT MOST 1048576: true; the input reads as it did. -/
def fnReadMoreUptoRow : OpenClaim := { program := "ytnenjkngimfdgaadoor", sum := "3ba8958d2c612a192758ca3525ea26b6f140afa18a5ab19ec812df2b5246b018", func := "pub-teleprinter/laws.FnReadMore", spec := "fnReadMore", unfollowed := true, recurses := true, named := ["io.ErrShortBuffer", "io.EOF", "io.ErrUnexpectedEOF"], apart := false, laid := [("io.ErrShortBuffer", laid_io_ErrShortBuffer), ("io.EOF", laid_io_EOF), ("io.ErrUnexpectedEOF", laid_io_ErrUnexpectedEOF)], narrowed := true }
def FnReadMoreUptoSaid : Prop := fnReadMoreUptoRow.holds Tryd.pinned (OpenSpec.upto fnReadMoreSpec)

/-- 'laws.FnRawHeader', WHERE WHAT IT READS IS OF BULK AT MOST 1048576: true; the input reads as it did. -/
def fnRawHeaderUptoRow : OpenClaim := { program := "ytnenjkngimfdgaadoor", sum := "3ba8958d2c612a192758ca3525ea26b6f140afa18a5ab19ec812df2b5246b018", func := "pub-teleprinter/laws.FnRawHeader", spec := "fnRawHeader", unfollowed := true, recurses := true, named := ["io.ErrShortBuffer", "io.EOF", "io.ErrUnexpectedEOF"], apart := false, laid := [("io.ErrShortBuffer", laid_io_ErrShortBuffer), ("io.EOF", laid_io_EOF), ("io.ErrUnexpectedEOF", laid_io_ErrUnexpectedEOF)], narrowed := true }
def FnRawHeaderUptoSaid : Prop := fnRawHeaderUptoRow.holds Tryd.pinned (OpenSpec.upto fnRawHeaderSpec)

/-- 'laws.FnRawWhole', WHERE WHAT IT READS IS OF BULK AT MOST 1048576: true; the input reads as it did. -/
def fnRawWholeUptoRow : OpenClaim := { program := "ytnenjkngimfdgaadoor", sum := "3ba8958d2c612a192758ca3525ea26b6f140afa18a5ab19ec812df2b5246b018", func := "pub-teleprinter/laws.FnRawWhole", spec := "fnRawWhole", unfollowed := true, recurses := true, named := ["io.ErrShortBuffer", "io.EOF", "io.ErrUnexpectedEOF"], loops := true, apart := false, laid := [("io.ErrShortBuffer", laid_io_ErrShortBuffer), ("io.EOF", laid_io_EOF), ("io.ErrUnexpectedEOF", laid_io_ErrUnexpectedEOF)], narrowed := true }
def FnRawWholeUptoSaid : Prop := fnRawWholeUptoRow.holds Tryd.pinned (OpenSpec.upto fnRawWholeSpec)

end Rows
end Go.Proofs.YtnenjkngimfdgaaDoor
