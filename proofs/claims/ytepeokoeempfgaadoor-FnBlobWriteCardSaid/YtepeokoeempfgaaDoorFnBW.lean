/-
  The walk of laws.FnBlobWrite: a text that is told to have n bytes is written as a blob string.
-/
import Derived.Test.YtepeokoeempfgaaDoorImplBW
import Derived.Test.YtepeokoeempfgaaDoorWire
namespace Go.Proofs.YtepeokoeempfgaaDoor
open Go.RowKit
set_option linter.unusedVariables false
set_option linter.unusedSimpArgs false

theorem bytes_ext {a b : ByteArray} (h : a.data.toList = b.data.toList) : a = b := by
  apply ByteArray.ext
  apply Array.ext'
  exact h
def oneB : ByteArray := ⟨#[36, 49, 13, 10, 97, 13, 10]⟩
theorem bsw_one : bswW [97, 98] 1 = oneB.data.toList := by
  have h : Lib.decDigits 1 = [49] := by rw [Lib.decDigits]; rfl
  simp [bswW, oneB, h]
theorem bsw_blob (s : ByteArray) (n : Nat) (h : n ≤ s.size) : bswW s.data.toList n = (blobW (s.extract 0 n)).data.toList := by
  have h1 : (s.extract 0 n).size = n := by rw [ByteArray.size_extract]; omega
  have h2 : (s.extract 0 n).data.toList = s.data.toList.take n := by simp
  simp [bswW, blobW, decT, crlf, ByteArray.data_append, h1]

set_option maxRecDepth 100000 in
set_option maxHeartbeats 2000000 in
theorem fnBlobWrite_walk (s : ByteArray) (n : Int) (hs : s.size ≤ maxLen) (hwf : (Lit.int .i64 n).wf = true) (ad : Addr) (w : World) (hP : Tab10 w.heap.size w) (hE : EofAt w w.heap.size ad) :
    Calls Tryd.prog 4 #[.string s, .int .i64 n] w fun e w' => e = .returned (.bool true) ∧ Below w.heap.size w w' := by
  obtain ⟨h0, h1⟩ : -9223372036854775808 ≤ n ∧ n ≤ 9223372036854775807 := by simpa [Lit.wf, IntKind.min, IntKind.max, IntKind.signed, IntKind.bits] using hwf
  clear hwf
  unfold maxLen at hs
  by_cases hz : 2147483647 < (s.size : Int)
  · have d1 := decide_eq_true hz
    clear hP hE
    go_enter Tryd.func4, Tryd.ntmps4
    go_wp2
    go_ret
    exact ⟨rfl, Below.refl _ _⟩
  have d1 := decide_eq_false hz
  by_cases hq : 5000 < (s.size : Int) ∨ n < 0 ∨ 5000 < n
  · clear hP hE
    rcases (by omega : 5000 < (s.size : Int) ∨ (¬ 5000 < (s.size : Int) ∧ n < 0) ∨ (¬ 5000 < (s.size : Int) ∧ ¬ n < 0 ∧ 5000 < n)) with h | ⟨h, h'⟩ | ⟨h, h', h''⟩
    · have d2 := decide_eq_true h
      go_enter Tryd.func4, Tryd.ntmps4
      go_wp2
      go_ret
      exact ⟨rfl, Below.refl _ _⟩
    · have d2 := decide_eq_false h
      have d3 := decide_eq_true h'
      go_enter Tryd.func4, Tryd.ntmps4
      go_wp2
      go_ret
      exact ⟨rfl, Below.refl _ _⟩
    · have d2 := decide_eq_false h
      have d3 := decide_eq_false h'
      have d4 := decide_eq_true h''
      go_enter Tryd.func4, Tryd.ntmps4
      go_wp2
      go_ret
      exact ⟨rfl, Below.refl _ _⟩
  obtain ⟨m, rfl⟩ : ∃ m : Nat, n = m := ⟨n.toNat, by omega⟩
  have q1 : ¬ 5000 < (s.size : Int) := by omega
  have q2 : ¬ (m : Int) < 0 := by omega
  have q3 : ¬ 5000 < (m : Int) := by omega
  have d2 := decide_eq_false q1
  have d3 := decide_eq_false q2
  have d4 := decide_eq_false q3
  have IW := implBW_any s m ad w hP hE (by omega) (by omega)
  have ONE : Hid (∀ w1, Ext w w1 → Calls Tryd.prog 12 #[.string ⟨#[97, 98]⟩, .int .i64 1] w1 fun e w' => e = .returned (.tuple #[.string oneB, .int .i64 0]) ∧ Ext w1 w') := hide fun w1 hx => by
    refine (implBW_any ⟨#[97, 98]⟩ 1 ad w1 (fun w' hb => hP w' (hx.below.trans (hb.mono hx.sizes))) ⟨Nat.lt_of_lt_of_le hE.1 hx.sizes, Nat.le_refl _, (hE.chg (Chg.of_ext hx []) (by simp)).2.2⟩ (by decide) (by decide)).mono ?_
    rintro e w' ⟨⟨wire, rfl, hT⟩, hx'⟩
    have : wire = oneB := bytes_ext ((hT (by decide)).trans bsw_one)
    subst this
    exact ⟨rfl, hx'⟩
  by_cases hle : m ≤ s.size
  · rw [if_pos hle] at IW
    have IW2 : Hid (Calls Tryd.prog 12 #[.string s, .int .i64 m] w fun e w' => e = .returned (.tuple #[.string (blobW (s.extract 0 m)), .int .i64 0]) ∧ Ext w w') := hide (IW.mono (by
      rintro e w' ⟨⟨wire, rfl, hT⟩, hx⟩
      have : wire = blobW (s.extract 0 m) := bytes_ext ((hT hle).trans (bsw_blob s m hle))
      subst this
      exact ⟨rfl, hx⟩))
    have hsz : (s.extract 0 m).size ≤ 1000000 := by rw [ByteArray.size_extract]; omega
    have BL : Hid (∀ w, Calls Tryd.prog 13 #[.int .u8 36, .string (s.extract 0 m)] w fun e w' => e = .returned (.string (blobW (s.extract 0 m))) ∧ Ext w w') := hide (fun w => blobWire_any _ hsz w)
    have i1 : (m : Int) ≤ s.size := by omega
    have i2 : ¬ (s.size : Int) < m := by omega
    have d5 := decide_eq_false i2
    generalize hB : blobW (s.extract 0 m) = T at IW2 BL
    clear hP hE IW hB hsz
    go_enter Tryd.func4, Tryd.ntmps4
    go_wp2_with fail
    refine IW2.out.mono ?_
    rintro e w1 ⟨rfl, hx1⟩
    have HX1 := hide hx1
    have O1 := hide (ONE.out w1 hx1)
    clear hx1 IW2 ONE
    go_wp2_with fail
    refine O1.out.mono ?_
    rintro e w2 ⟨rfl, hx2⟩
    have HX2 := hide (HX1.out.trans hx2)
    clear hx2 O1 HX1
    unfold oneB
    go_wp2_with fail
    refine (BL.out _).mono ?_
    rintro e w3 ⟨rfl, hx3⟩
    have HX3 := hide (HX2.out.trans hx3)
    clear hx3 BL HX2
    go_wp2
    go_ret
    exact ⟨by simp, HX3.out⟩
  · rw [if_neg hle] at IW
    have IW := hide IW
    have i2 : (s.size : Int) < m := by omega
    have d5 := decide_eq_true i2
    clear hP hE
    go_enter Tryd.func4, Tryd.ntmps4
    go_wp2_with fail
    refine IW.out.mono ?_
    rintro e w1 ⟨⟨wire, rfl, -⟩, hx1⟩
    have HX1 := hide hx1
    have O1 := hide (ONE.out w1 hx1)
    clear hx1 IW ONE
    go_wp2_with fail
    refine O1.out.mono ?_
    rintro e w2 ⟨rfl, hx2⟩
    have HX2 := hide (HX1.out.trans hx2)
    clear hx2 O1 HX1
    unfold oneB
    go_wp2
    go_ret
    exact ⟨by simp, HX2.out⟩
end Go.Proofs.YtepeokoeempfgaaDoor
