/-
  The decoder's named sets of bytes: contracts.
-/
import Derived.Test.YtejngpbeogaapaaDoorSets
namespace Go.Proofs.YtejngpbeogaapaaDoor
open Go.RowKit
set_option linter.unusedVariables false
set_option linter.unusedSimpArgs false

set_option maxRecDepth 100000 in
theorem without_any (w : World) (b b1 : Nat) (f f1 : Nat → Bool) (h : SetAt w b f) (h1 : SetAt w b1 f1) : RetSet 85 #[.pointer (some ⟨b, 0, none⟩), .pointer (some ⟨b1, 0, none⟩)] w (fun i => f i && !f1 i) := by
  unfold RetSet
  have H0 := hide h
  have H1 := hide h1
  clear h h1
  go_enter Tryd.func85, Tryd.ntmps85
  go_wp2_with fail
  refine (invert_any _ _ _ H1.out).mono ?_
  rintro e w1 ⟨g1, rfl, hx1, hs1, -⟩
  have X1 := hide hx1
  have S1 := hide hs1
  clear hx1 hs1
  go_wp2_with fail
  refine (intersect_any _ _ _ _ _ (H0.out.ext X1.out) S1.out).mono ?_
  rintro e w2 ⟨g2, rfl, hx2, hs2, hn2⟩
  have X2 := hide hx2
  have S2 := hide hs2
  have N2 := hide hn2
  clear hx2 hs2 hn2
  go_wp2
  go_ret
  exact ⟨g2, rfl, X1.out.trans X2.out, S2.out, Nat.le_trans X1.out.sizes N2.out⟩

def fSpace (i : Nat) : Bool := inText [32] i
set_option maxRecDepth 100000 in
theorem fSpace_any (w : World) : RetSet 51 #[] w fSpace := by
  unfold RetSet
  go_enter Tryd.func51, Tryd.ntmps51
  go_wp2_with fail
  refine (newByteSet_any _ ⟨#[32]⟩ (by decide)).mono ?_
  rintro e w0 ⟨g0, rfl, hx, hs, hn⟩
  have X0 := hide hx
  have S0 := hide hs
  have N0 := hide hn
  clear hx hs hn
  go_wp2
  go_ret
  exact ⟨g0, rfl, X0.out, S0.out, N0.out⟩

def fWs (i : Nat) : Bool := (fSpace i || inText [13, 10] i)
set_option maxRecDepth 100000 in
theorem fWs_any (w : World) : RetSet 52 #[] w fWs := by
  unfold RetSet
  go_enter Tryd.func52, Tryd.ntmps52
  go_wp2_with fail
  refine (fSpace_any _).mono ?_
  rintro e w0 ⟨g0, rfl, hx, hs, hn⟩
  have X0 := hide hx
  have S0 := hide hs
  have N0 := hide hn
  clear hx hs hn
  go_wp2_with fail
  refine (newByteSet_any _ ⟨#[13, 10]⟩ (by decide)).mono ?_
  rintro e w1 ⟨g1, rfl, hx, hs, hn⟩
  have X1 := hide hx
  have S1 := hide hs
  have N1 := hide hn
  clear hx hs hn
  go_wp2_with fail
  refine (union_any _ _ _ _ _ (S0.out.ext X1.out) S1.out).mono ?_
  rintro e w2 ⟨g2, rfl, hx, hs, hn⟩
  have X2 := hide hx
  have S2 := hide hs
  have N2 := hide hn
  clear hx hs hn
  go_wp2
  go_ret
  exact ⟨g2, rfl, ((X0.out.trans X1.out).trans X2.out), S2.out, Nat.le_trans X0.out.sizes (Nat.le_trans X1.out.sizes (N2.out))⟩

def fNonPrint (i : Nat) : Bool := ((decide (0 ≤ i) && decide (i ≤ 31)) || inText [127] i)
set_option maxRecDepth 100000 in
theorem fNonPrint_any (w : World) : RetSet 54 #[] w fNonPrint := by
  unfold RetSet
  go_enter Tryd.func54, Tryd.ntmps54
  go_wp2_with fail
  refine (newByteSetRange_any _ 0 31 (by decide) (by decide)).mono ?_
  rintro e w0 ⟨g0, rfl, hx, hs, hn⟩
  have X0 := hide hx
  have S0 := hide hs
  have N0 := hide hn
  clear hx hs hn
  go_wp2_with fail
  refine (newByteSet_any _ ⟨#[127]⟩ (by decide)).mono ?_
  rintro e w1 ⟨g1, rfl, hx, hs, hn⟩
  have X1 := hide hx
  have S1 := hide hs
  have N1 := hide hn
  clear hx hs hn
  go_wp2_with fail
  refine (union_any _ _ _ _ _ (S0.out.ext X1.out) S1.out).mono ?_
  rintro e w2 ⟨g2, rfl, hx, hs, hn⟩
  have X2 := hide hx
  have S2 := hide hs
  have N2 := hide hn
  clear hx hs hn
  go_wp2
  go_ret
  exact ⟨g2, rfl, ((X0.out.trans X1.out).trans X2.out), S2.out, Nat.le_trans X0.out.sizes (Nat.le_trans X1.out.sizes (N2.out))⟩

def fTagKey (i : Nat) : Bool := (!((inText [44, 61] i || fWs i) || fNonPrint i))
set_option maxRecDepth 100000 in
theorem fTagKey_any (w : World) : RetSet 53 #[] w fTagKey := by
  unfold RetSet
  go_enter Tryd.func53, Tryd.ntmps53
  go_wp2_with fail
  refine (newByteSet_any _ ⟨#[44, 61]⟩ (by decide)).mono ?_
  rintro e w0 ⟨g0, rfl, hx, hs, hn⟩
  have X0 := hide hx
  have S0 := hide hs
  have N0 := hide hn
  clear hx hs hn
  go_wp2_with fail
  refine (fWs_any _).mono ?_
  rintro e w1 ⟨g1, rfl, hx, hs, hn⟩
  have X1 := hide hx
  have S1 := hide hs
  have N1 := hide hn
  clear hx hs hn
  go_wp2_with fail
  refine (union_any _ _ _ _ _ (S0.out.ext X1.out) S1.out).mono ?_
  rintro e w2 ⟨g2, rfl, hx, hs, hn⟩
  have X2 := hide hx
  have S2 := hide hs
  have N2 := hide hn
  clear hx hs hn
  go_wp2_with fail
  refine (fNonPrint_any _).mono ?_
  rintro e w3 ⟨g3, rfl, hx, hs, hn⟩
  have X3 := hide hx
  have S3 := hide hs
  have N3 := hide hn
  clear hx hs hn
  go_wp2_with fail
  refine (union_any _ _ _ _ _ (S2.out.ext X3.out) S3.out).mono ?_
  rintro e w4 ⟨g4, rfl, hx, hs, hn⟩
  have X4 := hide hx
  have S4 := hide hs
  have N4 := hide hn
  clear hx hs hn
  go_wp2_with fail
  refine (invert_any _ _ _ S4.out).mono ?_
  rintro e w5 ⟨g5, rfl, hx, hs, hn⟩
  have X5 := hide hx
  have S5 := hide hs
  have N5 := hide hn
  clear hx hs hn
  go_wp2
  go_ret
  exact ⟨g5, rfl, (((((X0.out.trans X1.out).trans X2.out).trans X3.out).trans X4.out).trans X5.out), S5.out, Nat.le_trans X0.out.sizes (Nat.le_trans X1.out.sizes (Nat.le_trans X2.out.sizes (Nat.le_trans X3.out.sizes (Nat.le_trans X4.out.sizes (N5.out)))))⟩

def fEol (i : Nat) : Bool := inText [13, 10] i
set_option maxRecDepth 100000 in
theorem fEol_any (w : World) : RetSet 55 #[] w fEol := by
  unfold RetSet
  go_enter Tryd.func55, Tryd.ntmps55
  go_wp2_with fail
  refine (newByteSet_any _ ⟨#[13, 10]⟩ (by decide)).mono ?_
  rintro e w0 ⟨g0, rfl, hx, hs, hn⟩
  have X0 := hide hx
  have S0 := hide hs
  have N0 := hide hn
  clear hx hs hn
  go_wp2
  go_ret
  exact ⟨g0, rfl, X0.out, S0.out, N0.out⟩

def fMeas (i : Nat) : Bool := (!(inText [44, 32] i || fNonPrint i))
set_option maxRecDepth 100000 in
theorem fMeas_any (w : World) : RetSet 56 #[] w fMeas := by
  unfold RetSet
  go_enter Tryd.func56, Tryd.ntmps56
  go_wp2_with fail
  refine (newByteSet_any _ ⟨#[44, 32]⟩ (by decide)).mono ?_
  rintro e w0 ⟨g0, rfl, hx, hs, hn⟩
  have X0 := hide hx
  have S0 := hide hs
  have N0 := hide hn
  clear hx hs hn
  go_wp2_with fail
  refine (fNonPrint_any _).mono ?_
  rintro e w1 ⟨g1, rfl, hx, hs, hn⟩
  have X1 := hide hx
  have S1 := hide hs
  have N1 := hide hn
  clear hx hs hn
  go_wp2_with fail
  refine (union_any _ _ _ _ _ (S0.out.ext X1.out) S1.out).mono ?_
  rintro e w2 ⟨g2, rfl, hx, hs, hn⟩
  have X2 := hide hx
  have S2 := hide hs
  have N2 := hide hn
  clear hx hs hn
  go_wp2_with fail
  refine (invert_any _ _ _ S2.out).mono ?_
  rintro e w3 ⟨g3, rfl, hx, hs, hn⟩
  have X3 := hide hx
  have S3 := hide hs
  have N3 := hide hn
  clear hx hs hn
  go_wp2
  go_ret
  exact ⟨g3, rfl, (((X0.out.trans X1.out).trans X2.out).trans X3.out), S3.out, Nat.le_trans X0.out.sizes (Nat.le_trans X1.out.sizes (Nat.le_trans X2.out.sizes (N3.out)))⟩

def fTagVal (i : Nat) : Bool := (!((inText [44, 61] i || fWs i) || fNonPrint i))
set_option maxRecDepth 100000 in
theorem fTagVal_any (w : World) : RetSet 57 #[] w fTagVal := by
  unfold RetSet
  go_enter Tryd.func57, Tryd.ntmps57
  go_wp2_with fail
  refine (newByteSet_any _ ⟨#[44, 61]⟩ (by decide)).mono ?_
  rintro e w0 ⟨g0, rfl, hx, hs, hn⟩
  have X0 := hide hx
  have S0 := hide hs
  have N0 := hide hn
  clear hx hs hn
  go_wp2_with fail
  refine (fWs_any _).mono ?_
  rintro e w1 ⟨g1, rfl, hx, hs, hn⟩
  have X1 := hide hx
  have S1 := hide hs
  have N1 := hide hn
  clear hx hs hn
  go_wp2_with fail
  refine (union_any _ _ _ _ _ (S0.out.ext X1.out) S1.out).mono ?_
  rintro e w2 ⟨g2, rfl, hx, hs, hn⟩
  have X2 := hide hx
  have S2 := hide hs
  have N2 := hide hn
  clear hx hs hn
  go_wp2_with fail
  refine (fNonPrint_any _).mono ?_
  rintro e w3 ⟨g3, rfl, hx, hs, hn⟩
  have X3 := hide hx
  have S3 := hide hs
  have N3 := hide hn
  clear hx hs hn
  go_wp2_with fail
  refine (union_any _ _ _ _ _ (S2.out.ext X3.out) S3.out).mono ?_
  rintro e w4 ⟨g4, rfl, hx, hs, hn⟩
  have X4 := hide hx
  have S4 := hide hs
  have N4 := hide hn
  clear hx hs hn
  go_wp2_with fail
  refine (invert_any _ _ _ S4.out).mono ?_
  rintro e w5 ⟨g5, rfl, hx, hs, hn⟩
  have X5 := hide hx
  have S5 := hide hs
  have N5 := hide hn
  clear hx hs hn
  go_wp2
  go_ret
  exact ⟨g5, rfl, (((((X0.out.trans X1.out).trans X2.out).trans X3.out).trans X4.out).trans X5.out), S5.out, Nat.le_trans X0.out.sizes (Nat.le_trans X1.out.sizes (Nat.le_trans X2.out.sizes (Nat.le_trans X3.out.sizes (Nat.le_trans X4.out.sizes (N5.out)))))⟩

def fFieldKey (i : Nat) : Bool := fTagKey i
set_option maxRecDepth 100000 in
theorem fFieldKey_any (w : World) : RetSet 58 #[] w fFieldKey := by
  unfold RetSet
  go_enter Tryd.func58, Tryd.ntmps58
  go_wp2_with fail
  refine (fTagKey_any _).mono ?_
  rintro e w0 ⟨g0, rfl, hx, hs, hn⟩
  have X0 := hide hx
  have S0 := hide hs
  have N0 := hide hn
  clear hx hs hn
  go_wp2
  go_ret
  exact ⟨g0, rfl, X0.out, S0.out, N0.out⟩

def fStr (i : Nat) : Bool := (!(inText [34] i))
set_option maxRecDepth 100000 in
theorem fStr_any (w : World) : RetSet 59 #[] w fStr := by
  unfold RetSet
  go_enter Tryd.func59, Tryd.ntmps59
  go_wp2_with fail
  refine (newByteSet_any _ ⟨#[34]⟩ (by decide)).mono ?_
  rintro e w0 ⟨g0, rfl, hx, hs, hn⟩
  have X0 := hide hx
  have S0 := hide hs
  have N0 := hide hn
  clear hx hs hn
  go_wp2_with fail
  refine (invert_any _ _ _ S0.out).mono ?_
  rintro e w1 ⟨g1, rfl, hx, hs, hn⟩
  have X1 := hide hx
  have S1 := hide hs
  have N1 := hide hn
  clear hx hs hn
  go_wp2
  go_ret
  exact ⟨g1, rfl, (X0.out.trans X1.out), S1.out, Nat.le_trans X0.out.sizes (N1.out)⟩

def fFieldVal (i : Nat) : Bool := (!(inText [44] i || fWs i))
set_option maxRecDepth 100000 in
theorem fFieldVal_any (w : World) : RetSet 60 #[] w fFieldVal := by
  unfold RetSet
  go_enter Tryd.func60, Tryd.ntmps60
  go_wp2_with fail
  refine (newByteSet_any _ ⟨#[44]⟩ (by decide)).mono ?_
  rintro e w0 ⟨g0, rfl, hx, hs, hn⟩
  have X0 := hide hx
  have S0 := hide hs
  have N0 := hide hn
  clear hx hs hn
  go_wp2_with fail
  refine (fWs_any _).mono ?_
  rintro e w1 ⟨g1, rfl, hx, hs, hn⟩
  have X1 := hide hx
  have S1 := hide hs
  have N1 := hide hn
  clear hx hs hn
  go_wp2_with fail
  refine (union_any _ _ _ _ _ (S0.out.ext X1.out) S1.out).mono ?_
  rintro e w2 ⟨g2, rfl, hx, hs, hn⟩
  have X2 := hide hx
  have S2 := hide hs
  have N2 := hide hn
  clear hx hs hn
  go_wp2_with fail
  refine (invert_any _ _ _ S2.out).mono ?_
  rintro e w3 ⟨g3, rfl, hx, hs, hn⟩
  have X3 := hide hx
  have S3 := hide hs
  have N3 := hide hn
  clear hx hs hn
  go_wp2
  go_ret
  exact ⟨g3, rfl, (((X0.out.trans X1.out).trans X2.out).trans X3.out), S3.out, Nat.le_trans X0.out.sizes (Nat.le_trans X1.out.sizes (Nat.le_trans X2.out.sizes (N3.out)))⟩

def fTime (i : Nat) : Bool := inText [45, 48, 49, 50, 51, 52, 53, 54, 55, 56, 57] i
set_option maxRecDepth 100000 in
theorem fTime_any (w : World) : RetSet 61 #[] w fTime := by
  unfold RetSet
  go_enter Tryd.func61, Tryd.ntmps61
  go_wp2_with fail
  refine (newByteSet_any _ ⟨#[45, 48, 49, 50, 51, 52, 53, 54, 55, 56, 57]⟩ (by decide)).mono ?_
  rintro e w0 ⟨g0, rfl, hx, hs, hn⟩
  have X0 := hide hx
  have S0 := hide hs
  have N0 := hide hn
  clear hx hs hn
  go_wp2
  go_ret
  exact ⟨g0, rfl, X0.out, S0.out, N0.out⟩

def fComment (i : Nat) : Bool := ((!(fNonPrint i)) && !(fEol i))
set_option maxRecDepth 100000 in
theorem fComment_any (w : World) : RetSet 62 #[] w fComment := by
  unfold RetSet
  go_enter Tryd.func62, Tryd.ntmps62
  go_wp2_with fail
  refine (fNonPrint_any _).mono ?_
  rintro e w0 ⟨g0, rfl, hx, hs, hn⟩
  have X0 := hide hx
  have S0 := hide hs
  have N0 := hide hn
  clear hx hs hn
  go_wp2_with fail
  refine (invert_any _ _ _ S0.out).mono ?_
  rintro e w1 ⟨g1, rfl, hx, hs, hn⟩
  have X1 := hide hx
  have S1 := hide hs
  have N1 := hide hn
  clear hx hs hn
  go_wp2_with fail
  refine (fEol_any _).mono ?_
  rintro e w2 ⟨g2, rfl, hx, hs, hn⟩
  have X2 := hide hx
  have S2 := hide hs
  have N2 := hide hn
  clear hx hs hn
  go_wp2_with fail
  refine (without_any _ _ _ _ _ (S1.out.ext X2.out) S2.out).mono ?_
  rintro e w3 ⟨g3, rfl, hx, hs, hn⟩
  have X3 := hide hx
  have S3 := hide hs
  have N3 := hide hn
  clear hx hs hn
  go_wp2
  go_ret
  exact ⟨g3, rfl, (((X0.out.trans X1.out).trans X2.out).trans X3.out), S3.out, Nat.le_trans X0.out.sizes (Nat.le_trans X1.out.sizes (Nat.le_trans X2.out.sizes (N3.out)))⟩

def fNotEol (i : Nat) : Bool := (!(fEol i))
set_option maxRecDepth 100000 in
theorem fNotEol_any (w : World) : RetSet 63 #[] w fNotEol := by
  unfold RetSet
  go_enter Tryd.func63, Tryd.ntmps63
  go_wp2_with fail
  refine (fEol_any _).mono ?_
  rintro e w0 ⟨g0, rfl, hx, hs, hn⟩
  have X0 := hide hx
  have S0 := hide hs
  have N0 := hide hn
  clear hx hs hn
  go_wp2_with fail
  refine (invert_any _ _ _ S0.out).mono ?_
  rintro e w1 ⟨g1, rfl, hx, hs, hn⟩
  have X1 := hide hx
  have S1 := hide hs
  have N1 := hide hn
  clear hx hs hn
  go_wp2
  go_ret
  exact ⟨g1, rfl, (X0.out.trans X1.out), S1.out, Nat.le_trans X0.out.sizes (N1.out)⟩

def fNotNl (i : Nat) : Bool := (!(inText [10] i))
set_option maxRecDepth 100000 in
theorem fNotNl_any (w : World) : RetSet 64 #[] w fNotNl := by
  unfold RetSet
  go_enter Tryd.func64, Tryd.ntmps64
  go_wp2_with fail
  refine (newByteSet_any _ ⟨#[10]⟩ (by decide)).mono ?_
  rintro e w0 ⟨g0, rfl, hx, hs, hn⟩
  have X0 := hide hx
  have S0 := hide hs
  have N0 := hide hn
  clear hx hs hn
  go_wp2_with fail
  refine (invert_any _ _ _ S0.out).mono ?_
  rintro e w1 ⟨g1, rfl, hx, hs, hn⟩
  have X1 := hide hx
  have S1 := hide hs
  have N1 := hide hn
  clear hx hs hn
  go_wp2
  go_ret
  exact ⟨g1, rfl, (X0.out.trans X1.out), S1.out, Nat.le_trans X0.out.sizes (N1.out)⟩
end Go.Proofs.YtejngpbeogaapaaDoor
