/-
  No cell of these rows narrows 'for every input' (looked for: loops, veiled, ifaces, maps, wideKeys, modest, calm, conditions, laid).
  DERIVED. THE GIVEN ROWS OF THIS SEAT. 6 by the template 'for every input the law returns true; each argument reads behind the call as it read before'; 0 by the template 'total and deterministic' (their statements: YtlnidgkcgjlnaaaTotals.lean).
  GIVEN WITH THE SEED: the statements are not yours to turn. If you find one false, say at which input.
  Laid BY PROGRAM, IN A SANDBOX (cutbox-rows.mjs): the forced cells as the released guide's own fill.sh prints them over the translation 550dbddc2e738df6… (all of the seat's roots in one cut). By AI agents, Wed Nov 11 2026. No macro, syntax, notation, axiom, sorry.
-/
import Derived.Test.YtlnidgkcgjlnaaaChecked
import GoSem.Claim
import GoSem.ClaimJoined
import GoSem.ClaimMapViews
import Derived.JoinedTies
import Derived.KernelRfl
namespace Go.Proofs.Ytlnidgkcgjlnaaa
/- THE CELL 'sum', in the pinned program and in every row, IS THE sha256 OF THE DUMP (.gsa) THAT YtlnidgkcgjlnaaaProg.lean LOADS. Nothing in Lean hashes anything: it is a label: what it is worth is what the hold of that sum in a sandbox is worth. -/
noncomputable def Try.pinned : Pinned := { name := "ytlnidgkcgjlnaaa", sum := "550dbddc2e738df67009f620116fc7f34a5bc73c170ed55301dbd9154b492dae", checked := Try.checked }
namespace Rows
def none {H : Type} : Left H := { results := [], args := [] }

/-- 'laws.FnExpanded': WHATEVER THE INPUT: true; the input reads as it did. -/
def fnExpandedSpec : ChangeSpec := { name := "fnExpanded", fn := fun _ => fun
  | [d1, d2, d3] => { results := [.lit (.bool true)], args := [d1, d2, d3] }
  | _ => none }
def fnExpandedRow : OpenClaim := { program := "ytlnidgkcgjlnaaa", sum := "550dbddc2e738df67009f620116fc7f34a5bc73c170ed55301dbd9154b492dae", func := "pub-teleprinter/laws.FnExpanded", spec := "fnExpanded", unfollowed := true, recurses := true, apart := false }
def FnExpandedSaid : Prop := fnExpandedRow.holds Try.pinned (OpenSpec.ofChange fnExpandedSpec)

/-- ITS FALSE NEIGHBOUR: 'it returns false'. Refute it at one input. -/
def fnExpandedWrong : ChangeSpec := { name := "fnExpanded", fn := fun _ => fun
  | [d1, d2, d3] => { results := [.lit (.bool false)], args := [d1, d2, d3] }
  | _ => none }
def FnExpandedWrongFalsely : Prop := fnExpandedRow.holds Try.pinned (OpenSpec.ofChange fnExpandedWrong)

/-- 'laws.FnNanos': WHATEVER THE INPUT: true; the input reads as it did. -/
def fnNanosSpec : ChangeSpec := { name := "fnNanos", fn := fun _ => fun
  | [d1, d2] => { results := [.lit (.bool true)], args := [d1, d2] }
  | _ => none }
def fnNanosRow : OpenClaim := { program := "ytlnidgkcgjlnaaa", sum := "550dbddc2e738df67009f620116fc7f34a5bc73c170ed55301dbd9154b492dae", func := "pub-teleprinter/laws.FnNanos", spec := "fnNanos", unfollowed := true, recurses := true, apart := false }
def FnNanosSaid : Prop := fnNanosRow.holds Try.pinned (OpenSpec.ofChange fnNanosSpec)

/-- ITS FALSE NEIGHBOUR: 'it returns false'. Refute it at one input. -/
def fnNanosWrong : ChangeSpec := { name := "fnNanos", fn := fun _ => fun
  | [d1, d2] => { results := [.lit (.bool false)], args := [d1, d2] }
  | _ => none }
def FnNanosWrongFalsely : Prop := fnNanosRow.holds Try.pinned (OpenSpec.ofChange fnNanosWrong)

/-- 'laws.FnIDNext': WHATEVER THE INPUT: true; the input reads as it did. -/
def fnIDNextSpec : ChangeSpec := { name := "fnIDNext", fn := fun _ => fun
  | [d] => { results := [.lit (.bool true)], args := [d] }
  | _ => none }
def fnIDNextRow : OpenClaim := { program := "ytlnidgkcgjlnaaa", sum := "550dbddc2e738df67009f620116fc7f34a5bc73c170ed55301dbd9154b492dae", func := "pub-teleprinter/laws.FnIDNext", spec := "fnIDNext", apart := false }
def FnIDNextSaid : Prop := fnIDNextRow.holds Try.pinned (OpenSpec.ofChange fnIDNextSpec)

/-- ITS FALSE NEIGHBOUR: 'it returns false'. Refute it at one input. -/
def fnIDNextWrong : ChangeSpec := { name := "fnIDNext", fn := fun _ => fun
  | [d] => { results := [.lit (.bool false)], args := [d] }
  | _ => none }
def FnIDNextWrongFalsely : Prop := fnIDNextRow.holds Try.pinned (OpenSpec.ofChange fnIDNextWrong)

/-- 'laws.FnSlotTag': WHATEVER THE INPUT: true; the input reads as it did. -/
def fnSlotTagSpec : ChangeSpec := { name := "fnSlotTag", fn := fun _ => fun
  | [d1, d2, d3, d4, d5] => { results := [.lit (.bool true)], args := [d1, d2, d3, d4, d5] }
  | _ => none }
def fnSlotTagRow : OpenClaim := { program := "ytlnidgkcgjlnaaa", sum := "550dbddc2e738df67009f620116fc7f34a5bc73c170ed55301dbd9154b492dae", func := "pub-teleprinter/laws.FnSlotTag", spec := "fnSlotTag", inPlace := ["internal/bytealg.IndexByte"], apart := false }
def FnSlotTagSaid : Prop := fnSlotTagRow.holds Try.pinned (OpenSpec.ofChange fnSlotTagSpec)

/-- ITS FALSE NEIGHBOUR: 'it returns false'. Refute it at one input. -/
def fnSlotTagWrong : ChangeSpec := { name := "fnSlotTag", fn := fun _ => fun
  | [d1, d2, d3, d4, d5] => { results := [.lit (.bool false)], args := [d1, d2, d3, d4, d5] }
  | _ => none }
def FnSlotTagWrongFalsely : Prop := fnSlotTagRow.holds Try.pinned (OpenSpec.ofChange fnSlotTagWrong)

/-- 'laws.FnParse': WHATEVER THE INPUT: true; the input reads as it did. -/
def fnParseSpec : ChangeSpec := { name := "fnParse", fn := fun _ => fun
  | [d] => { results := [.lit (.bool true)], args := [d] }
  | _ => none }
def fnParseRow : OpenClaim := { program := "ytlnidgkcgjlnaaa", sum := "550dbddc2e738df67009f620116fc7f34a5bc73c170ed55301dbd9154b492dae", func := "pub-teleprinter/laws.FnParse", spec := "fnParse", unfollowed := true, recurses := true, apart := false }
def FnParseSaid : Prop := fnParseRow.holds Try.pinned (OpenSpec.ofChange fnParseSpec)

/-- ITS FALSE NEIGHBOUR: 'it returns false'. Refute it at one input. -/
def fnParseWrong : ChangeSpec := { name := "fnParse", fn := fun _ => fun
  | [d] => { results := [.lit (.bool false)], args := [d] }
  | _ => none }
def FnParseWrongFalsely : Prop := fnParseRow.holds Try.pinned (OpenSpec.ofChange fnParseWrong)

/-- 'laws.FnSHA1Length': WHATEVER THE INPUT: true; the input reads as it did. -/
def fnSHA1LengthSpec : ChangeSpec := { name := "fnSHA1Length", fn := fun _ => fun
  | [d1, d2, d3] => { results := [.lit (.bool true)], args := [d1, d2, d3] }
  | _ => none }
def fnSHA1LengthRow : OpenClaim := { program := "ytlnidgkcgjlnaaa", sum := "550dbddc2e738df67009f620116fc7f34a5bc73c170ed55301dbd9154b492dae", func := "pub-teleprinter/laws.FnSHA1Length", spec := "fnSHA1Length", unfollowed := true, recurses := true, apart := false }
def FnSHA1LengthSaid : Prop := fnSHA1LengthRow.holds Try.pinned (OpenSpec.ofChange fnSHA1LengthSpec)

/-- ITS FALSE NEIGHBOUR: 'it returns false'. Refute it at one input. -/
def fnSHA1LengthWrong : ChangeSpec := { name := "fnSHA1Length", fn := fun _ => fun
  | [d1, d2, d3] => { results := [.lit (.bool false)], args := [d1, d2, d3] }
  | _ => none }
def FnSHA1LengthWrongFalsely : Prop := fnSHA1LengthRow.holds Try.pinned (OpenSpec.ofChange fnSHA1LengthWrong)

/- THE SECOND FORM. 'bulk': how many values and letters a reading holds, each counted each time it is reached (what is shared counts as often as it is met; a slice's spare places count too). A statement '..UptoSaid' is the law's where the arguments, and the package variables that the reading takes, are together of bulk at most 1048576: NARROWER than '..Said'. Prove '..Said' where nothing that the law and all that it calls make is longer than what came in: it says more and counts as full. Else prove '..UptoSaid'. A law counts once. -/
mutual
def uptoBulk {H : Type} : DataW H → Nat
  | .lit (.string bytes) => bytes.length + 1
  | .lit _ => 1
  | .nil => 1
  | .ptr d => uptoBulk d + 1
  | .slice elems spare => uptoBulkAll elems + uptoBulkAll spare + 1
  | .agg parts => uptoBulkAll parts + 1
  | .iface _ d => uptoBulk d + 1
  | .map entries => uptoBulkEntries entries + 1
  | .held _ => 1
def uptoBulkAll {H : Type} : List (DataW H) → Nat
  | [] => 0
  | d :: r => uptoBulk d + uptoBulkAll r
def uptoBulkEntries {H : Type} : List (Lit × DataW H) → Nat
  | [] => 0
  | x :: r => uptoBulkEntry x + uptoBulkEntries r
def uptoBulkEntry {H : Type} : Lit × DataW H → Nat
  | (.string bytes, d) => bytes.length + uptoBulk d + 1
  | (_, d) => uptoBulk d + 1
 end
def uptoSmall : (H : Type) → List (DataW H) → Bool := fun _ ds => decide (uptoBulkAll ds ≤ 1048576)
def OpenSpec.upto (s : _root_.Go.ChangeSpec) : _root_.Go.OpenSpec := { _root_.Go.OpenSpec.ofChange s with cond := some uptoSmall }

/-- 'laws.FnExpanded', WHERE WHAT IT READS IS OF BULK AT MOST 1048576: true; the input reads as it did. -/
def fnExpandedUptoRow : OpenClaim := { program := "ytlnidgkcgjlnaaa", sum := "550dbddc2e738df67009f620116fc7f34a5bc73c170ed55301dbd9154b492dae", func := "pub-teleprinter/laws.FnExpanded", spec := "fnExpanded", unfollowed := true, recurses := true, apart := false, narrowed := true }
def FnExpandedUptoSaid : Prop := fnExpandedUptoRow.holds Try.pinned (OpenSpec.upto fnExpandedSpec)

/-- 'laws.FnNanos', WHERE WHAT IT READS IS OF BULK AT MOST 1048576: true; the input reads as it did. -/
def fnNanosUptoRow : OpenClaim := { program := "ytlnidgkcgjlnaaa", sum := "550dbddc2e738df67009f620116fc7f34a5bc73c170ed55301dbd9154b492dae", func := "pub-teleprinter/laws.FnNanos", spec := "fnNanos", unfollowed := true, recurses := true, apart := false, narrowed := true }
def FnNanosUptoSaid : Prop := fnNanosUptoRow.holds Try.pinned (OpenSpec.upto fnNanosSpec)

/-- 'laws.FnIDNext', WHERE WHAT IT READS IS OF BULK AT MOST 1048576: true; the input reads as it did. -/
def fnIDNextUptoRow : OpenClaim := { program := "ytlnidgkcgjlnaaa", sum := "550dbddc2e738df67009f620116fc7f34a5bc73c170ed55301dbd9154b492dae", func := "pub-teleprinter/laws.FnIDNext", spec := "fnIDNext", apart := false, narrowed := true }
def FnIDNextUptoSaid : Prop := fnIDNextUptoRow.holds Try.pinned (OpenSpec.upto fnIDNextSpec)

/-- 'laws.FnSlotTag', WHERE WHAT IT READS IS OF BULK AT MOST 1048576: true; the input reads as it did. -/
def fnSlotTagUptoRow : OpenClaim := { program := "ytlnidgkcgjlnaaa", sum := "550dbddc2e738df67009f620116fc7f34a5bc73c170ed55301dbd9154b492dae", func := "pub-teleprinter/laws.FnSlotTag", spec := "fnSlotTag", inPlace := ["internal/bytealg.IndexByte"], apart := false, narrowed := true }
def FnSlotTagUptoSaid : Prop := fnSlotTagUptoRow.holds Try.pinned (OpenSpec.upto fnSlotTagSpec)

/-- 'laws.FnParse', WHERE WHAT IT READS IS OF BULK AT MOST 1048576: true; the input reads as it did. -/
def fnParseUptoRow : OpenClaim := { program := "ytlnidgkcgjlnaaa", sum := "550dbddc2e738df67009f620116fc7f34a5bc73c170ed55301dbd9154b492dae", func := "pub-teleprinter/laws.FnParse", spec := "fnParse", unfollowed := true, recurses := true, apart := false, narrowed := true }
def FnParseUptoSaid : Prop := fnParseUptoRow.holds Try.pinned (OpenSpec.upto fnParseSpec)

/-- 'laws.FnSHA1Length', WHERE WHAT IT READS IS OF BULK AT MOST 1048576: true; the input reads as it did. -/
def fnSHA1LengthUptoRow : OpenClaim := { program := "ytlnidgkcgjlnaaa", sum := "550dbddc2e738df67009f620116fc7f34a5bc73c170ed55301dbd9154b492dae", func := "pub-teleprinter/laws.FnSHA1Length", spec := "fnSHA1Length", unfollowed := true, recurses := true, apart := false, narrowed := true }
def FnSHA1LengthUptoSaid : Prop := fnSHA1LengthUptoRow.holds Try.pinned (OpenSpec.upto fnSHA1LengthSpec)

end Rows
end Go.Proofs.Ytlnidgkcgjlnaaa
