/-
  The decoder's sets of bytes by number: contracts.
-/
import Derived.Test.YtejngpbeogaapaaDoorNamed
namespace Go.Proofs.YtejngpbeogaapaaDoor
open Go.RowKit
set_option linter.unusedVariables false
set_option linter.unusedSimpArgs false

def doorF : Nat → Nat → Bool
  | 0, i => fSpace i
  | 1, i => fWs i
  | 2, i => fTagKey i
  | 3, i => fNonPrint i
  | 4, i => fEol i
  | 5, i => fMeas i
  | 6, i => fTagVal i
  | 7, i => fFieldKey i
  | 8, i => fStr i
  | 9, i => fFieldVal i
  | 10, i => fTime i
  | 11, i => fComment i
  | 12, i => fNotEol i
  | _, i => fNotNl i

set_option maxRecDepth 100000 in
theorem doorSet_any (s : Nat) (hs : s ≤ 13) (w : World) : RetSet 35 #[.int .i64 s] w (doorF s) := by
  rcases (by omega : s = 0 ∨ s = 1 ∨ s = 2 ∨ s = 3 ∨ s = 4 ∨ s = 5 ∨ s = 6 ∨ s = 7 ∨ s = 8 ∨ s = 9 ∨ s = 10 ∨ s = 11 ∨ s = 12 ∨ s = 13) with rfl | rfl | rfl | rfl | rfl | rfl | rfl | rfl | rfl | rfl | rfl | rfl | rfl | rfl
  · show RetSet _ _ w fSpace
    unfold RetSet
    go_enter Tryd.func35, Tryd.ntmps35
    go_wp2_with fail
    refine (fSpace_any _).mono ?_
    rintro e w1 ⟨g1, rfl, hx, hs1, hn1⟩
    have X1 := hide hx
    have S1 := hide hs1
    have N1 := hide hn1
    clear hx hs1 hn1
    go_wp2
    go_ret
    exact ⟨g1, rfl, X1.out, S1.out, N1.out⟩
  · show RetSet _ _ w fWs
    unfold RetSet
    go_enter Tryd.func35, Tryd.ntmps35
    go_wp2_with fail
    refine (fWs_any _).mono ?_
    rintro e w1 ⟨g1, rfl, hx, hs1, hn1⟩
    have X1 := hide hx
    have S1 := hide hs1
    have N1 := hide hn1
    clear hx hs1 hn1
    go_wp2
    go_ret
    exact ⟨g1, rfl, X1.out, S1.out, N1.out⟩
  · show RetSet _ _ w fTagKey
    unfold RetSet
    go_enter Tryd.func35, Tryd.ntmps35
    go_wp2_with fail
    refine (fTagKey_any _).mono ?_
    rintro e w1 ⟨g1, rfl, hx, hs1, hn1⟩
    have X1 := hide hx
    have S1 := hide hs1
    have N1 := hide hn1
    clear hx hs1 hn1
    go_wp2
    go_ret
    exact ⟨g1, rfl, X1.out, S1.out, N1.out⟩
  · show RetSet _ _ w fNonPrint
    unfold RetSet
    go_enter Tryd.func35, Tryd.ntmps35
    go_wp2_with fail
    refine (fNonPrint_any _).mono ?_
    rintro e w1 ⟨g1, rfl, hx, hs1, hn1⟩
    have X1 := hide hx
    have S1 := hide hs1
    have N1 := hide hn1
    clear hx hs1 hn1
    go_wp2
    go_ret
    exact ⟨g1, rfl, X1.out, S1.out, N1.out⟩
  · show RetSet _ _ w fEol
    unfold RetSet
    go_enter Tryd.func35, Tryd.ntmps35
    go_wp2_with fail
    refine (fEol_any _).mono ?_
    rintro e w1 ⟨g1, rfl, hx, hs1, hn1⟩
    have X1 := hide hx
    have S1 := hide hs1
    have N1 := hide hn1
    clear hx hs1 hn1
    go_wp2
    go_ret
    exact ⟨g1, rfl, X1.out, S1.out, N1.out⟩
  · show RetSet _ _ w fMeas
    unfold RetSet
    go_enter Tryd.func35, Tryd.ntmps35
    go_wp2_with fail
    refine (fMeas_any _).mono ?_
    rintro e w1 ⟨g1, rfl, hx, hs1, hn1⟩
    have X1 := hide hx
    have S1 := hide hs1
    have N1 := hide hn1
    clear hx hs1 hn1
    go_wp2
    go_ret
    exact ⟨g1, rfl, X1.out, S1.out, N1.out⟩
  · show RetSet _ _ w fTagVal
    unfold RetSet
    go_enter Tryd.func35, Tryd.ntmps35
    go_wp2_with fail
    refine (fTagVal_any _).mono ?_
    rintro e w1 ⟨g1, rfl, hx, hs1, hn1⟩
    have X1 := hide hx
    have S1 := hide hs1
    have N1 := hide hn1
    clear hx hs1 hn1
    go_wp2
    go_ret
    exact ⟨g1, rfl, X1.out, S1.out, N1.out⟩
  · show RetSet _ _ w fFieldKey
    unfold RetSet
    go_enter Tryd.func35, Tryd.ntmps35
    go_wp2_with fail
    refine (fFieldKey_any _).mono ?_
    rintro e w1 ⟨g1, rfl, hx, hs1, hn1⟩
    have X1 := hide hx
    have S1 := hide hs1
    have N1 := hide hn1
    clear hx hs1 hn1
    go_wp2
    go_ret
    exact ⟨g1, rfl, X1.out, S1.out, N1.out⟩
  · show RetSet _ _ w fStr
    unfold RetSet
    go_enter Tryd.func35, Tryd.ntmps35
    go_wp2_with fail
    refine (fStr_any _).mono ?_
    rintro e w1 ⟨g1, rfl, hx, hs1, hn1⟩
    have X1 := hide hx
    have S1 := hide hs1
    have N1 := hide hn1
    clear hx hs1 hn1
    go_wp2
    go_ret
    exact ⟨g1, rfl, X1.out, S1.out, N1.out⟩
  · show RetSet _ _ w fFieldVal
    unfold RetSet
    go_enter Tryd.func35, Tryd.ntmps35
    go_wp2_with fail
    refine (fFieldVal_any _).mono ?_
    rintro e w1 ⟨g1, rfl, hx, hs1, hn1⟩
    have X1 := hide hx
    have S1 := hide hs1
    have N1 := hide hn1
    clear hx hs1 hn1
    go_wp2
    go_ret
    exact ⟨g1, rfl, X1.out, S1.out, N1.out⟩
  · show RetSet _ _ w fTime
    unfold RetSet
    go_enter Tryd.func35, Tryd.ntmps35
    go_wp2_with fail
    refine (fTime_any _).mono ?_
    rintro e w1 ⟨g1, rfl, hx, hs1, hn1⟩
    have X1 := hide hx
    have S1 := hide hs1
    have N1 := hide hn1
    clear hx hs1 hn1
    go_wp2
    go_ret
    exact ⟨g1, rfl, X1.out, S1.out, N1.out⟩
  · show RetSet _ _ w fComment
    unfold RetSet
    go_enter Tryd.func35, Tryd.ntmps35
    go_wp2_with fail
    refine (fComment_any _).mono ?_
    rintro e w1 ⟨g1, rfl, hx, hs1, hn1⟩
    have X1 := hide hx
    have S1 := hide hs1
    have N1 := hide hn1
    clear hx hs1 hn1
    go_wp2
    go_ret
    exact ⟨g1, rfl, X1.out, S1.out, N1.out⟩
  · show RetSet _ _ w fNotEol
    unfold RetSet
    go_enter Tryd.func35, Tryd.ntmps35
    go_wp2_with fail
    refine (fNotEol_any _).mono ?_
    rintro e w1 ⟨g1, rfl, hx, hs1, hn1⟩
    have X1 := hide hx
    have S1 := hide hs1
    have N1 := hide hn1
    clear hx hs1 hn1
    go_wp2
    go_ret
    exact ⟨g1, rfl, X1.out, S1.out, N1.out⟩
  · show RetSet _ _ w fNotNl
    unfold RetSet
    go_enter Tryd.func35, Tryd.ntmps35
    go_wp2_with fail
    refine (fNotNl_any _).mono ?_
    rintro e w1 ⟨g1, rfl, hx, hs1, hn1⟩
    have X1 := hide hx
    have S1 := hide hs1
    have N1 := hide hn1
    clear hx hs1 hn1
    go_wp2
    go_ret
    exact ⟨g1, rfl, X1.out, S1.out, N1.out⟩

end Go.Proofs.YtejngpbeogaapaaDoor
