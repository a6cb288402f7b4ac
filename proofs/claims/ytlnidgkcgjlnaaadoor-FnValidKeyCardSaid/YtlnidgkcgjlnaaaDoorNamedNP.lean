/-
  The decoder's named sets of bytes: contracts.
-/
import Derived.Test.YtlnidgkcgjlnaaaDoorSetsNP
namespace Go.Proofs.YtlnidgkcgjlnaaaDoor
open Go.RowKit
set_option linter.unusedVariables false
set_option linter.unusedSimpArgs false


def fNonPrint (i : Nat) : Bool := ((decide (0 ≤ i) && decide (i ≤ 31)) || inText [127] i)
set_option maxRecDepth 100000 in
theorem fNonPrint_any (w : World) : RetSet 23 #[] w fNonPrint := by
  unfold RetSet
  go_enter Tryd.func23, Tryd.ntmps23
  go_wp2_with fail
  refine (newByteSetRange_any _ 0 31 (by decide) (by decide)).mono ?_
  rintro e w0 ⟨g0, rfl, hx, hs⟩
  have X0 := hide hx
  have S0 := hide hs
  clear hx hs
  go_wp2_with fail
  refine (newByteSet_any _ ⟨#[127]⟩ (by decide)).mono ?_
  rintro e w1 ⟨g1, rfl, hx, hs⟩
  have X1 := hide hx
  have S1 := hide hs
  clear hx hs
  go_wp2_with fail
  refine (union_any _ _ _ _ _ (S0.out.ext X1.out) S1.out).mono ?_
  rintro e w2 ⟨g2, rfl, hx, hs⟩
  have X2 := hide hx
  have S2 := hide hs
  clear hx hs
  go_wp2
  go_ret
  exact ⟨g2, rfl, ((X0.out.trans X1.out).trans X2.out), S2.out⟩
end Go.Proofs.YtlnidgkcgjlnaaaDoor
